/-
  The walk of FnDigitsReadsBackZeroPaddedNumeral.
-/
import Derived.Test.Qxb6600333aBytes
namespace Go.Proofs.Qxb6600333a
open Go.RowKit
set_option linter.unusedVariables false

/-- The digit of v at place p. -/
def dg (v : Int) (p : Nat) : Int := v / 10 ^ p % 10
theorem dg_bound (v : Int) (p : Nat) : 0 ≤ dg v p ∧ dg v p ≤ 9 := by unfold dg; omega

theorem div_next {v X : Int} {k j : Nat} (hj : j + 1 ≤ k) (hX : X = v / 10 ^ (k - (j + 1))) : X / 10 = v / 10 ^ (k - j) ∧ X % 10 = dg v (k - 1 - j) := by
  have e1 : k - j = (k - (j + 1)) + 1 := by omega
  have e2 : k - 1 - j = k - (j + 1) := by omega
  rw [e1, e2, hX, Int.pow_succ]
  refine ⟨?_, rfl⟩
  rw [Int.ediv_ediv_of_nonneg]
  exact Int.pow_nonneg (by omega)

theorem div_zero_bound {v : Int} (h0 : 0 ≤ v) (h1 : v ≤ 1000000000) (p : Nat) : 0 ≤ v / 10 ^ p ∧ v / 10 ^ p ≤ 1000000000 := by
  have hp : (0 : Int) ≤ 10 ^ p := Int.pow_nonneg (by omega)
  exact ⟨Int.ediv_nonneg h0 hp, Int.le_trans (Int.ediv_le_self _ h0) h1⟩

/-- The bytes from place j to place k - 1 are the digits of v. -/
def Filled (c : Array Value) (v : Int) (k j : Nat) : Prop := ∀ m, j ≤ m → m < k → c[m]? = some (.int .u8 (48 + dg v (k - 1 - m)))

theorem Filled.step {c : Array Value} {v : Int} {k j : Nat} (h : Filled c v k (j + 1)) (hj : j < c.size) :
    Filled (c.setIfInBounds j (.int .u8 (48 + dg v (k - 1 - j)))) v k j := by
  intro m h1 h2
  by_cases e : j = m
  · subst e; simp [hj]
  · rw [Array.getElem?_setIfInBounds_ne e]; exact h m (by omega) h2

/-- The k bytes. -/
def pad (v : Int) (k : Nat) : List Int := (List.range k).map fun m => 48 + dg v (k - 1 - m)
theorem pad_length (v : Int) (k : Nat) : (pad v k).length = k := by simp [pad]
theorem pad_get (v : Int) (k m : Nat) (h : m < k) : (pad v k)[m]'(by rw [pad_length]; exact h) = 48 + dg v (k - 1 - m) := by simp [pad]
theorem pad_bt (v : Int) (k m : Nat) (h : m < k) : bt (ofInts (pad v k)) m = 48 + dg v (k - 1 - m) := by
  have hb := dg_bound v (k - 1 - m)
  have e := pad_get v k m h
  rw [bt_ofInts (pad v k) m (by rw [pad_length]; exact h) (by rw [e]; omega) (by rw [e]; omega), e]

theorem hor_pad {s : ByteArray} {v : Int} {k : Nat} (h0 : 0 ≤ v) (h1 : v < 10 ^ k) (hb : ∀ m, m < k → bt s m = 48 + dg v (k - 1 - m)) : ∀ j, j ≤ k → hor s j = v / 10 ^ (k - j) := by
  intro j
  induction j with
  | zero => intro _; rw [Nat.sub_zero, Int.ediv_eq_zero_of_lt h0 h1]; rfl
  | succ j ih =>
    intro hj
    have e1 := ih (by omega)
    have e2 : hor s (j + 1) = hor s j * 10 + (bt s j - 48) := rfl
    obtain ⟨X, hX⟩ : ∃ X, X = v / 10 ^ (k - (j + 1)) := ⟨_, rfl⟩
    obtain ⟨d1, d2⟩ := div_next hj hX
    rw [e2, e1, hb j (by omega), ← hX, ← d1, ← d2]
    omega

/-- What is read back. -/
theorem read_back {v : Int} {k : Nat} (tail : ByteArray) (h0 : 0 ≤ v) (h1 : v < 10 ^ k) (hk : k ≤ 9) :
    Digs (ofInts (pad v k) ++ tail) k ∧ wrap64 (hor (ofInts (pad v k) ++ tail) k) = v ∧ (ofInts (pad v k) ++ tail).extract k (ofInts (pad v k) ++ tail).size = tail := by
  have hs : (ofInts (pad v k)).size = k := by rw [size_ofInts, pad_length]
  have hb : ∀ m, m < k → bt (ofInts (pad v k) ++ tail) m = 48 + dg v (k - 1 - m) := by
    intro m hm
    rw [bt_append_left _ _ _ (by omega), pad_bt v k m hm]
  refine ⟨?_, ?_, ?_⟩
  · intro m hm
    have := dg_bound v (k - 1 - m)
    rw [hb m hm]
    omega
  · have e := hor_pad h0 h1 hb k (Nat.le_refl _)
    rw [Nat.sub_self, Int.pow_zero, Int.ediv_one] at e
    have hp := pow_le_nine hk
    rw [e, wrap_small h0 (by omega)]
  · have e := extract_append_right (ofInts (pad v k)) tail
    rw [hs] at e
    exact e

set_option maxHeartbeats 800000 in
theorem walk4_in (v : Int) (k : Nat) (tail : ByteArray) (ok : Bool) (w : World) (ht : (tail.size : Int) ≤ 1048576) (hk : (k : Int) ≤ 9) (hv0 : 0 ≤ v) (T : Int) (hT : v < T) (hTk : Hid (T = 10 ^ k)) :
    Calls Try.prog 4 #[.int .i64 v, .int .i64 k, .string tail, .bool ok] w fun e w' => e = .returned (.bool true) ∧ Below w.heap.size w w' := by
  go_enter Try.func4, Try.ntmps4
  go_wp2_with (first | (go_at_call 15; go_must (refine (pow15 k _ (by omega)).mono ?_; rintro e w1 ⟨rfl, hw⟩; rw [hw, ← hTk.out]; clear hw w1)) | go_in)
  have hk9 := pow_le_nine (k := k) (by omega)
  rw [← hTk.out] at hk9
  have hv1 : v ≤ 1000000000 := by omega
  clear hk9
  go_loopw [10, 11] (fun x i wr => ∃ (j : Nat) (X : Int) (c : Array Value), j ≤ k ∧ i = .int .i64 (j - 1) ∧ x = .int .i64 X ∧ wr = w.alloc (.cells c 29) ∧ c.size = 9 ∧ X = v / 10 ^ (k - j) ∧ Filled c v k j) (fun _ i _ => (intOf i + 1).toNat)
  case atStart => exact ⟨k, v, _, Nat.le_refl _, rfl, rfl, rfl, rfl, by rw [Nat.sub_self, Int.pow_zero]; simp, fun m h1 h2 => absurd h2 (by omega)⟩
  case round =>
    obtain ⟨j, X, c, hj, rfl, rfl, rfl, hc, hX, hF⟩ := hrel
    have HX : Hid (X = v / 10 ^ (k - j)) := hX
    have HF : Hid (Filled c v k j) := hF
    have hXb := div_zero_bound hv0 hv1 (k - j)
    rw [← hX] at hXb
    obtain ⟨hX0, hX1⟩ := hXb
    clear hX hF
    by_cases hlt : 0 < j
    · obtain ⟨i, rfl⟩ : ∃ i, j = i + 1 := ⟨j - 1, by omega⟩
      have ej : ((i + 1 : Nat) : Int) - 1 = (i : Int) := by omega
      rw [ej]
      clear ej
      have hi9 : i < 9 := by omega
      have HR : Hid (X / 10 = v / 10 ^ (k - i) ∧ X % 10 = dg v (k - 1 - i)) := div_next hj HX.out
      go_wp2
      go_roundw
      case rel => exact ⟨i, _, _, by omega, rfl, rfl, rfl, by simp [hc], HR.out.1, by rw [HR.out.2]; exact HF.out.step (by omega)⟩
      case measure => simp [intOf]
    · obtain rfl : j = 0 := by omega
      have hrb := read_back (v := v) (k := k) tail hv0 (by rw [← hTk.out]; exact hT) (by omega)
      have hBs : (ofInts (pad v k)).size = k := by rw [size_ofInts, pad_length]
      have hconv : (convert 30 9 (Value.slice (some ⟨w.heap.size, 0, none⟩) k 9)).run Try.prog (w.alloc (.cells c 29)) = .ok (.string (ofInts (pad v k))) (w.alloc (.cells c 29)) := by
        refine conv_bytes _ _ _ _ _ (pad_length v k) ?_
        intro m hm
        have h1 := HF.out m (Nat.zero_le _) hm
        have h2 : (pad v k).getD m 0 = 48 + dg v (k - 1 - m) := by
          rw [List.getD_eq_getElem?_getD, List.getElem?_eq_getElem (by rw [pad_length]; exact hm), pad_get v k m hm]; rfl
        rw [h2, ← h1, Go.WideShapes.add_plain]
        simp
      generalize ofInts (pad v k) = B at hrb hBs hconv
      have HRB : Hid (_ ∧ _ ∧ _) := hrb
      have hsz : (B ++ tail).size ≤ maxLen := by rw [size_append]; unfold maxLen; omega
      have hkn : k ≤ (B ++ tail).size := by rw [size_append]; omega
      clear hrb HF HX
      go_wp2_with (first | (go_at_call 13; go_must (refine (zz13_yes _ _ _ _ hsz hkn HRB.out.1).mono ?_; rintro e w1 ⟨rfl, hb1⟩; unfold three; rw [HRB.out.2.1, HRB.out.2.2])))
      go_ret
      exact ⟨rfl, ((Below.refl _ _).alloc (Nat.le_refl _) _).trans (hb1.mono (by simp))⟩

set_option maxHeartbeats 800000 in
theorem walk4_out (v n : Int) (tail : ByteArray) (ok : Bool) (w : World) (h : 1048576 < (tail.size : Int) ∨ ((tail.size : Int) ≤ 1048576 ∧ n < 0) ∨ ((tail.size : Int) ≤ 1048576 ∧ 9 < n) ∨ ((tail.size : Int) ≤ 1048576 ∧ 0 ≤ n ∧ n ≤ 9 ∧ v < 0)) :
    Calls Try.prog 4 #[.int .i64 v, .int .i64 n, .string tail, .bool ok] w fun e w' => e = .returned (.bool true) ∧ Below w.heap.size w w' := by
  rcases h with h | ⟨h, h'⟩ | ⟨h, h'⟩ | ⟨h, h', h2, h3⟩
  all_goals
    go_enter Try.func4, Try.ntmps4
    go_wp2
    go_ret
    exact ⟨rfl, Below.refl _ _⟩

set_option maxHeartbeats 800000 in
theorem walk4_big (v : Int) (k : Nat) (tail : ByteArray) (ok : Bool) (w : World) (ht : (tail.size : Int) ≤ 1048576) (hk : (k : Int) ≤ 9) (hv0 : 0 ≤ v) (T : Int) (hT : T ≤ v) (hTk : Hid (T = 10 ^ k)) :
    Calls Try.prog 4 #[.int .i64 v, .int .i64 k, .string tail, .bool ok] w fun e w' => e = .returned (.bool true) ∧ Below w.heap.size w w' := by
  go_enter Try.func4, Try.ntmps4
  go_wp2_with (first | (go_at_call 15; go_must (refine (pow15 k _ (by omega)).mono ?_; rintro e w1 ⟨rfl, hw⟩; rw [hw, ← hTk.out]; clear hw w1)) | go_in)
  go_ret
  exact ⟨rfl, Below.refl _ _⟩

theorem walk4 (v n : Int) (tail : ByteArray) (ok : Bool) (w : World) (_hv : (Lit.int .i64 v).wf = true) (_hn : (Lit.int .i64 n).wf = true) (_ht : tail.size ≤ maxLen) :
    Calls Try.prog 4 #[.int .i64 v, .int .i64 n, .string tail, .bool ok] w fun e w' => e = .returned (.bool true) ∧ Below w.heap.size w w' := by
  by_cases h : 1048576 < (tail.size : Int) ∨ ((tail.size : Int) ≤ 1048576 ∧ n < 0) ∨ ((tail.size : Int) ≤ 1048576 ∧ 9 < n) ∨ ((tail.size : Int) ≤ 1048576 ∧ 0 ≤ n ∧ n ≤ 9 ∧ v < 0)
  · exact walk4_out v n tail ok w h
  · obtain ⟨k, rfl⟩ : ∃ k : Nat, n = (k : Int) := ⟨n.toNat, by omega⟩
    by_cases hT : v < 10 ^ k
    · exact walk4_in v k tail ok w (by omega) (by omega) (by omega) (10 ^ k) hT rfl
    · exact walk4_big v k tail ok w (by omega) (by omega) (by omega) (10 ^ k) (by omega) rfl
end Go.Proofs.Qxb6600333a
