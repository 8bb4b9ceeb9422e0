/-
  The contracts of (*timeScanner).digits and (*timeScanner).fraction, and of their shims.
-/
import Derived.Test.Qxb6600333aCallees
namespace Go.Proofs.Qxb6600333a
open Go.RowKit
set_option linter.unusedVariables false

theorem val_hor (s : ByteArray) (k : Nat) : Value.int .i64 (wrap64 (wrap64 (wrap64 (hor s k) * 10) + (bt s k - 48))) = .int .i64 (wrap64 (hor s (k + 1))) := by
  rw [wrap_step']; rfl

set_option maxHeartbeats 400000 in
theorem digits_yes (s : ByteArray) (ok : Bool) (n : Nat) (w : World) (hs : s.size ≤ maxLen) (hn : n ≤ s.size) (hd : Digs s n) :
    Calls Try.prog 25 #[.pointer (some ⟨w.heap.size, 0, none⟩), .int .i64 n] (w.alloc (.cells #[.string s, .bool ok] 41)) fun e w' =>
      e = .returned (.int .i64 (wrap64 (hor s n))) ∧ w' = w.alloc (.cells #[.string (s.extract n s.size), .bool ok] 41) := by
  unfold maxLen at hs
  have HD : Hid (Digs s n) := hd
  have hb := get_bt s
  clear hd
  go_enter Try.func25, Try.ntmps25
  go_wp2
  go_loop [5, 18] (fun v i => ∃ k : Nat, k ≤ n ∧ i = .int .i64 k ∧ v = .int .i64 (wrap64 (hor s k))) (fun _ i => n - (intOf i).toNat)
  case atStart => exact ⟨0, Nat.zero_le _, rfl, by rw [show hor s 0 = 0 from rfl, wrap_zero]⟩
  case round =>
    obtain ⟨k, hk, rfl, rfl⟩ := hrel
    by_cases hlt : k < n
    · obtain ⟨h1, h2⟩ := HD.out k hlt
      have hks : k < s.size := by omega
      go_wp2
      go_round
      case rel => exact ⟨k + 1, by omega, by go_num, val_hor s k⟩
      case measure => simp [intOf]; omega
    · go_wp2
      go_ret
      obtain rfl : k = n := by omega
      exact ⟨rfl, rfl⟩

set_option maxHeartbeats 400000 in
theorem digits_no (s : ByteArray) (ok : Bool) (n : Nat) (w : World) (hs : s.size ≤ maxLen) (h : s.size < n ∨ (n ≤ s.size ∧ ¬ Digs s n)) :
    Calls Try.prog 25 #[.pointer (some ⟨w.heap.size, 0, none⟩), .int .i64 n] (w.alloc (.cells #[.string s, .bool ok] 41)) fun e w' =>
      e = .returned (.int .i64 0) ∧ w' = w.alloc (.cells #[.string s, .bool false] 41) := by
  unfold maxLen at hs
  have hb := get_bt s
  rcases h with h | ⟨hn, hd⟩
  · go_enter Try.func25, Try.ntmps25
    go_wp2
    go_ret
    exact ⟨rfl, rfl⟩
  · have HD : Hid (¬ Digs s n) := hd
    clear hd
    go_enter Try.func25, Try.ntmps25
    go_wp2
    go_loop [5, 18] (fun v i => ∃ k : Nat, k ≤ n ∧ i = .int .i64 k ∧ v = .int .i64 (wrap64 (hor s k)) ∧ Digs s k) (fun _ i => n - (intOf i).toNat)
    case atStart => exact ⟨0, Nat.zero_le _, rfl, by rw [show hor s 0 = 0 from rfl, wrap_zero], fun j hj => absurd hj (Nat.not_lt_zero _)⟩
    case round =>
      obtain ⟨k, hk, rfl, rfl, hd⟩ := hrel
      have HK : Hid (Digs s k) := hd
      clear hd
      by_cases hlt : k < n
      · have hks : k < s.size := by omega
        by_cases h1 : 48 ≤ bt s k
        · by_cases h2 : bt s k ≤ 57
          · go_wp2
            go_round
            case rel => exact ⟨k + 1, by omega, by go_num, val_hor s k, HK.out.snoc h1 h2⟩
            case measure => simp [intOf]; omega
          · go_wp2
            go_ret
            exact ⟨rfl, rfl⟩
        · go_wp2
          go_ret
          exact ⟨rfl, rfl⟩
      · exfalso
        obtain rfl : k = n := by omega
        exact HD.out HK.out

/-- The three results, as one. -/
def three (v : Int) (r : ByteArray) (o : Bool) : Ending := .returned (.tuple #[.int .i64 v, .string r, .bool o])

set_option maxHeartbeats 400000 in
theorem zz13_yes (s : ByteArray) (ok : Bool) (n : Nat) (w : World) (hs : s.size ≤ maxLen) (hn : n ≤ s.size) (hd : Digs s n) :
    Calls Try.prog 13 #[.string s, .bool ok, .int .i64 n] w fun e w' => e = three (wrap64 (hor s n)) (s.extract n s.size) ok ∧ Below w.heap.size w w' := by
  have HD : Hid (Digs s n) := hd
  clear hd
  go_enter Try.func13, Try.ntmps13
  go_wp2_with (go_at_call 25; go_must (refine (digits_yes s ok n w hs hn HD.out).mono ?_; rintro e w1 ⟨rfl, hw⟩; rw [hw]; clear hw w1))
  go_quiet (fail)
  go_wp2
  go_ret3
  exact ⟨rfl, below_drewN ((Below.refl _ _).alloc (Nat.le_refl _) _) _⟩

set_option maxHeartbeats 400000 in
theorem zz13_no (s : ByteArray) (ok : Bool) (n : Nat) (w : World) (hs : s.size ≤ maxLen) (h : s.size < n ∨ (n ≤ s.size ∧ ¬ Digs s n)) :
    Calls Try.prog 13 #[.string s, .bool ok, .int .i64 n] w fun e w' => e = three 0 s false ∧ Below w.heap.size w w' := by
  have HD : Hid (s.size < n ∨ (n ≤ s.size ∧ ¬ Digs s n)) := h
  clear h
  go_enter Try.func13, Try.ntmps13
  go_wp2_with (go_at_call 25; go_must (refine (digits_no s ok n w hs HD.out).mono ?_; rintro e w1 ⟨rfl, hw⟩; rw [hw]; clear hw w1))
  go_quiet (fail)
  go_wp2
  go_ret3
  exact ⟨rfl, below_drewN ((Below.refl _ _).alloc (Nat.le_refl _) _) _⟩
end Go.Proofs.Qxb6600333a
