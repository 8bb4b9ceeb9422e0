/-
  The contracts of the callees that only compute.
-/
import Derived.Test.Qxb6600333aPlain
import Derived.Test.Qxb6600333aChecked
import Derived.WalkSpells
import Derived.WalkLawsBesides
import Derived.Deep.QuietTactic
import Derived.BigQuiet
import Derived.KernelRfl
namespace Go.Proofs.Qxb6600333a
open Go.RowKit
set_option linter.unusedVariables false

theorem ret_bool {a b : Bool} (h : a = b) : Ending.returned (.bool a) = .returned (.bool b) := by rw [h]
theorem ret_int {k : IntKind} {a b : Int} (h : a = b) : Ending.returned (.int k a) = .returned (.int k b) := by rw [h]

theorem Digs.snoc {s : ByteArray} {k : Nat} (h : Digs s k) (h1 : 48 ≤ bt s k) (h2 : bt s k ≤ 57) : Digs s (k + 1) := by
  intro j hj
  by_cases e : j = k
  · subst e; exact ⟨h1, h2⟩
  · exact h j (by omega)

set_option maxHeartbeats 400000 in
theorem all11_yes (t : ByteArray) (w : World) (ht : t.size ≤ maxLen) (h : Digs t t.size) :
    Calls Try.prog 11 #[.string t] w fun e w' => e = .returned (.bool true) ∧ w' = w := by
  unfold maxLen at ht
  have HD : Hid (Digs t t.size) := h
  have hb := get_bt t
  clear h
  go_enter Try.func11, Try.ntmps11
  go_wp2
  go_loop [3] (fun i => ∃ k : Nat, k ≤ t.size ∧ i = .int .i64 k) (fun i => t.size - (intOf i).toNat)
  case atStart => exact ⟨0, Nat.zero_le _, rfl⟩
  case round =>
    obtain ⟨k, hk, rfl⟩ := hrel
    by_cases hlt : k < t.size
    · obtain ⟨h1, h2⟩ := HD.out k hlt
      go_wp2
      go_round
      case rel => exact ⟨k + 1, by omega, by go_num⟩
      case measure => simp [intOf]; omega
    · go_wp2
      go_ret
      exact ⟨rfl, rfl⟩

set_option maxHeartbeats 400000 in
theorem all11_no (t : ByteArray) (w : World) (ht : t.size ≤ maxLen) (h : ¬ Digs t t.size) :
    Calls Try.prog 11 #[.string t] w fun e w' => e = .returned (.bool false) ∧ w' = w := by
  unfold maxLen at ht
  have HD : Hid (¬ Digs t t.size) := h
  have hb := get_bt t
  clear h
  go_enter Try.func11, Try.ntmps11
  go_wp2
  go_loop [3] (fun i => ∃ k : Nat, k ≤ t.size ∧ i = .int .i64 k ∧ Digs t k) (fun i => t.size - (intOf i).toNat)
  case atStart => exact ⟨0, Nat.zero_le _, rfl, fun j hj => absurd hj (Nat.not_lt_zero _)⟩
  case round =>
    obtain ⟨k, hk, rfl, hd⟩ := hrel
    have HK : Hid (Digs t k) := hd
    clear hd
    by_cases hlt : k < t.size
    · by_cases h1 : 48 ≤ bt t k
      · by_cases h2 : bt t k ≤ 57
        · go_wp2
          go_round
          case rel => exact ⟨k + 1, by omega, by go_num, HK.out.snoc h1 h2⟩
          case measure => simp [intOf]; omega
        · go_wp2
          go_ret
          exact ⟨rfl, rfl⟩
      · go_wp2
        go_ret
        exact ⟨rfl, rfl⟩
    · exfalso
      obtain rfl : k = t.size := by omega
      exact HD.out HK.out

/-- One step of the sum from the right. -/
theorem right_step {s : ByteArray} {n j : Nat} {V P : Int} (hj : j + 1 ≤ n) (hV : hor s n = hor s (j + 1) * 10 ^ (n - (j + 1)) + V) (hP : P = 10 ^ (n - (j + 1))) :
    hor s n = hor s j * 10 ^ (n - j) + (V + (bt s j - 48) * P) ∧ P * 10 = 10 ^ (n - j) := by
  have e1 : n - j = (n - (j + 1)) + 1 := by omega
  have e2 : hor s (j + 1) = hor s j * 10 + (bt s j - 48) := rfl
  rw [hV, e1, e2, Int.pow_succ, ← hP]
  refine ⟨?_, rfl⟩
  rw [Int.add_mul, Int.mul_assoc, Int.mul_comm 10 P]
  omega

theorem wrap_zero : wrap64 0 = 0 := wrap_small (by omega) (by omega)
theorem wrap_one : wrap64 1 = 1 := wrap_small (by omega) (by omega)
theorem val_sum (V d P : Int) : Value.int .i64 (wrap64 (wrap64 V + wrap64 (d * wrap64 P))) = .int .i64 (wrap64 (V + d * P)) := by rw [wrap_mul, wrap_add]
theorem val_ten (P : Int) : Value.int .i64 (wrap64 (wrap64 P * 10)) = .int .i64 (wrap64 (P * 10)) := by
  have : wrap64 (wrap64 P * 10) = wrap64 (P * 10) := by unfold wrap64; omega
  rw [this]

set_option maxHeartbeats 400000 in
theorem value12 (t : ByteArray) (w : World) (ht : t.size ≤ maxLen) (h : Digs t t.size) :
    Calls Try.prog 12 #[.string t] w fun e w' => e = .returned (.int .i64 (wrap64 (hor t t.size))) ∧ w' = w := by
  unfold maxLen at ht
  have HD : Hid (Digs t t.size) := h
  have hb := get_bt t
  clear h
  go_enter Try.func12, Try.ntmps12
  go_wp2
  go_loop [3, 4, 5] (fun v p i => ∃ (k : Nat) (V P : Int), k ≤ t.size ∧ i = .int .i64 (k - 1) ∧ v = .int .i64 (wrap64 V) ∧ p = .int .i64 (wrap64 P) ∧ hor t t.size = hor t k * 10 ^ (t.size - k) + V ∧ P = 10 ^ (t.size - k)) (fun _ _ i => (intOf i + 1).toNat)
  case atStart => exact ⟨t.size, 0, 1, Nat.le_refl _, rfl, by rw [wrap_zero], by rw [wrap_one], by rw [Nat.sub_self, Int.pow_zero]; omega, by rw [Nat.sub_self, Int.pow_zero]⟩
  case round =>
    obtain ⟨k, V, P, hk, rfl, rfl, rfl, hV, hP⟩ := hrel
    have HV : Hid (hor t t.size = hor t k * 10 ^ (t.size - k) + V) := hV
    have HP : Hid (P = 10 ^ (t.size - k)) := hP
    clear hV hP
    by_cases hlt : 0 < k
    · obtain ⟨j, rfl⟩ : ∃ j, k = j + 1 := ⟨k - 1, by omega⟩
      have ej : ((j + 1 : Nat) : Int) - 1 = (j : Int) := by omega
      rw [ej]
      clear ej
      have hjs : j < t.size := by omega
      obtain ⟨h1, h2⟩ := HD.out j hjs
      have HR : Hid (_ ∧ _) := right_step hk HV.out HP.out
      go_wp2
      go_round
      case rel => exact ⟨j, _, _, by omega, rfl, val_sum _ _ _, val_ten _, HR.out.1, HR.out.2⟩
      case measure => simp [intOf]
    · go_wp2
      go_ret
      obtain rfl : k = 0 := by omega
      exact ⟨ret_int (by rw [HV.out]; show _ = wrap64 (0 * _ + V); rw [Int.zero_mul, Int.zero_add]), rfl⟩

set_option maxHeartbeats 400000 in
theorem pow15 (k : Nat) (w : World) (hk9 : k ≤ 9) :
    Calls Try.prog 15 #[.int .i64 k] w fun e w' => e = .returned (.int .i64 (10 ^ k)) ∧ w' = w := by
  go_enter Try.func15, Try.ntmps15
  go_wp2
  go_loop [3, 4] (fun p i => ∃ (j : Nat) (P : Int), j ≤ k ∧ i = .int .i64 j ∧ p = .int .i64 P ∧ P = 10 ^ j) (fun _ i => k - (intOf i).toNat)
  case atStart => exact ⟨0, 1, Nat.zero_le _, rfl, rfl, rfl⟩
  case round =>
    obtain ⟨j, P, hj, rfl, rfl, hP⟩ := hrel
    have hb := pow_le_nine (k := j) (by omega)
    rw [← hP] at hb
    obtain ⟨hb1, hb2⟩ := hb
    have HP : Hid (P = 10 ^ j) := hP
    clear hP
    by_cases hlt : j < k
    · go_wp2
      go_round
      case rel => exact ⟨j + 1, _, by omega, by go_num, rfl, by rw [HP.out, Int.pow_succ]⟩
      case measure => simp [intOf]; omega
    · go_wp2
      go_ret
      obtain rfl : j = k := by omega
      exact ⟨ret_int HP.out, rfl⟩

/-- s begins with just L digits. -/
structure Lead (s : ByteArray) (L : Nat) : Prop where
  le : L ≤ s.size
  digs : Digs s L
  stop : L < s.size → bt s L < 48 ∨ 57 < bt s L

theorem exists_lead (s : ByteArray) : ∃ L, Lead s L := by
  have key : ∀ m, m ≤ s.size → (∃ L, Lead s L) ∨ Digs s m := by
    intro m
    induction m with
    | zero => intro _; exact .inr fun j hj => absurd hj (Nat.not_lt_zero _)
    | succ m ih =>
      intro hm
      rcases ih (by omega) with h | h
      · exact .inl h
      · by_cases hd : 48 ≤ bt s m ∧ bt s m ≤ 57
        · exact .inr (h.snoc hd.1 hd.2)
        · exact .inl ⟨m, by omega, h, fun _ => by omega⟩
  rcases key s.size (Nat.le_refl _) with h | h
  · exact h
  · exact ⟨s.size, Nat.le_refl _, h, fun h => absurd h (Nat.lt_irrefl _)⟩

set_option maxHeartbeats 400000 in
theorem lead20 (s : ByteArray) (L : Nat) (w : World) (hs : s.size ≤ maxLen) (h : Lead s L) :
    Calls Try.prog 20 #[.string s] w fun e w' => e = .returned (.int .i64 L) ∧ w' = w := by
  unfold maxLen at hs
  have HD : Hid (Lead s L) := h
  have hle := h.le
  have hb := get_bt s
  clear h
  go_enter Try.func20, Try.ntmps20
  go_wp2
  go_loop [3] (fun i => ∃ k : Nat, k ≤ L ∧ i = .int .i64 k) (fun i => L - (intOf i).toNat)
  case atStart => exact ⟨0, Nat.zero_le _, rfl⟩
  case round =>
    obtain ⟨k, hk, rfl⟩ := hrel
    by_cases hlt : k < L
    · obtain ⟨h1, h2⟩ := HD.out.digs k hlt
      have hks : k < s.size := by omega
      go_wp2
      go_round
      case rel => exact ⟨k + 1, by omega, by go_num⟩
      case measure => simp [intOf]; omega
    · obtain rfl : k = L := by omega
      by_cases hls : k < s.size
      · rcases HD.out.stop hls with h1 | h1
        all_goals
          go_wp2
          go_ret
          exact ⟨rfl, rfl⟩
      · go_wp2
        go_ret
        exact ⟨rfl, rfl⟩
end Go.Proofs.Qxb6600333a
