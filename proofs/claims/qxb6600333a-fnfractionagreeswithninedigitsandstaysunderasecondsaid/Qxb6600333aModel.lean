/-
  The walk of FnDigitsMatchesRightToLeftModel.
-/
import Derived.Test.Qxb6600333aFraction
namespace Go.Proofs.Qxb6600333a
open Go.RowKit
set_option linter.unusedVariables false

/-- What the first n bytes of s say, said of the string of those bytes. -/
theorem front_facts (s : ByteArray) (n : Nat) (hn : n ≤ s.size) : (s.extract 0 n).size = n ∧ (Digs (s.extract 0 n) n ↔ Digs s n) ∧ hor (s.extract 0 n) n = hor s n := by
  have hb : ∀ j, j < n → bt (s.extract 0 n) j = bt s j := fun j hj => by
    have := bt_extract s 0 n j hn (by omega)
    rw [Nat.zero_add] at this
    exact this
  refine ⟨size_extract0 s n hn, ⟨fun h j hj => ?_, fun h j hj => ?_⟩, hor_congr _ _ n hb⟩
  · have := h j hj; rw [hb j hj] at this; exact this
  · rw [hb j hj]; exact h j hj

set_option maxHeartbeats 800000 in
theorem walk3_short (s : ByteArray) (ok : Bool) (n : Nat) (w : World) (hs : (s.size : Int) ≤ 1048576) (hn : (n : Int) ≤ 1048576) (h : s.size < n) :
    Calls Try.prog 3 #[.string s, .bool ok, .int .i64 n] w fun e w' => e = .returned (.bool true) ∧ Below w.heap.size w w' := by
  have hsm : s.size ≤ maxLen := by unfold maxLen; omega
  go_enter Try.func3, Try.ntmps3
  go_wp2_with (first | (go_at_call 13; go_must (refine (zz13_no _ _ _ _ hsm (.inl h)).mono ?_; rintro e w1 ⟨rfl, hb1⟩; unfold three)) | go_in)
  go_ret
  exact ⟨rfl, hb1⟩

set_option maxHeartbeats 800000 in
theorem walk3_no (s : ByteArray) (ok : Bool) (n : Nat) (w : World) (hs : (s.size : Int) ≤ 1048576) (hn : n ≤ s.size) (h : ¬ Digs s n) :
    Calls Try.prog 3 #[.string s, .bool ok, .int .i64 n] w fun e w' => e = .returned (.bool true) ∧ Below w.heap.size w w' := by
  have hsm : s.size ≤ maxLen := by unfold maxLen; omega
  obtain ⟨p1, p2, p3⟩ := front_facts s n hn
  have hpm : (s.extract 0 n).size ≤ maxLen := by rw [p1]; omega
  have HN : Hid (¬ Digs (s.extract 0 n) (s.extract 0 n).size) := by rw [p1, p2]; exact h
  have HD : Hid (¬ Digs s n) := h
  clear h p2 p3 p1
  go_enter Try.func3, Try.ntmps3
  go_wp2_with (first | (go_at_call 13; go_must (refine (zz13_no _ _ _ _ hsm (.inr ⟨hn, HD.out⟩)).mono ?_; rintro e w1 ⟨rfl, hb1⟩; unfold three)) | (go_at_call 11; go_must (refine (all11_no _ _ hpm HN.out).mono ?_; rintro e w1 ⟨rfl, hw⟩; rw [hw]; clear hw w1)) | go_in)
  go_ret
  exact ⟨rfl, hb1⟩

set_option maxHeartbeats 800000 in
theorem walk3_yes (s : ByteArray) (ok : Bool) (n : Nat) (w : World) (hs : (s.size : Int) ≤ 1048576) (hn : n ≤ s.size) (h : Digs s n) :
    Calls Try.prog 3 #[.string s, .bool ok, .int .i64 n] w fun e w' => e = .returned (.bool true) ∧ Below w.heap.size w w' := by
  have hsm : s.size ≤ maxLen := by unfold maxLen; omega
  obtain ⟨p1, p2, p3⟩ := front_facts s n hn
  have hpm : (s.extract 0 n).size ≤ maxLen := by rw [p1]; omega
  have HN : Hid (Digs (s.extract 0 n) (s.extract 0 n).size) := by rw [p1, p2]; exact h
  have HD : Hid (Digs s n) := h
  have HV : Hid (wrap64 (hor (s.extract 0 n) (s.extract 0 n).size) = wrap64 (hor s n)) := by
    show wrap64 (hor (s.extract 0 n) (s.extract 0 n).size) = wrap64 (hor s n)
    rw [p1, p3]
  clear h p2 p3 p1
  go_enter Try.func3, Try.ntmps3
  go_wp2_with (first | (go_at_call 13; go_must (refine (zz13_yes _ _ _ _ hsm hn HD.out).mono ?_; rintro e w1 ⟨rfl, hb1⟩; unfold three)) | (go_at_call 11; go_must (refine (all11_yes _ _ hpm HN.out).mono ?_; rintro e w1 ⟨rfl, hw⟩; rw [hw]; clear hw w1)) | (go_at_call 12; go_must (refine (value12 _ _ hpm HN.out).mono ?_; rintro e w1 ⟨rfl, hw⟩; rw [hw, HV.out]; clear hw w1)) | go_in)
  go_ret
  exact ⟨rfl, hb1⟩

set_option maxHeartbeats 800000 in
theorem walk3_out (s : ByteArray) (ok : Bool) (n : Int) (w : World) (h : 1048576 < (s.size : Int) ∨ ((s.size : Int) ≤ 1048576 ∧ n < 0) ∨ ((s.size : Int) ≤ 1048576 ∧ 1048576 < n)) :
    Calls Try.prog 3 #[.string s, .bool ok, .int .i64 n] w fun e w' => e = .returned (.bool true) ∧ Below w.heap.size w w' := by
  rcases h with h | ⟨h, h'⟩ | ⟨h, h'⟩
  all_goals
    go_enter Try.func3, Try.ntmps3
    go_wp2
    go_ret
    exact ⟨rfl, Below.refl _ _⟩

theorem walk3 (s : ByteArray) (ok : Bool) (n : Int) (w : World) (_hs : s.size ≤ maxLen) (_hn : (Lit.int .i64 n).wf = true) :
    Calls Try.prog 3 #[.string s, .bool ok, .int .i64 n] w fun e w' => e = .returned (.bool true) ∧ Below w.heap.size w w' := by
  by_cases h : 1048576 < (s.size : Int) ∨ ((s.size : Int) ≤ 1048576 ∧ n < 0) ∨ ((s.size : Int) ≤ 1048576 ∧ 1048576 < n)
  · exact walk3_out s ok n w h
  · obtain ⟨k, rfl⟩ : ∃ k : Nat, n = (k : Int) := ⟨n.toNat, by omega⟩
    by_cases h1 : s.size < k
    · exact walk3_short s ok k w (by omega) (by omega) h1
    · by_cases h2 : Digs s k
      · exact walk3_yes s ok k w (by omega) (by omega) h2
      · exact walk3_no s ok k w (by omega) (by omega) h2
end Go.Proofs.Qxb6600333a
