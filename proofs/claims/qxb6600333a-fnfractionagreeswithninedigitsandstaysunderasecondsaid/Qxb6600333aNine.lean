/-
  The walk of FnFractionAgreesWithNineDigitsAndStaysUnderASecond.
-/
import Derived.Test.Qxb6600333aModel
namespace Go.Proofs.Qxb6600333a
open Go.RowKit
set_option linter.unusedVariables false

theorem not_digs {s : ByteArray} {L n : Nat} (h : Lead s L) (hL : L < n) (hn : n ≤ s.size) : ¬ Digs s n := by
  intro hd
  have h1 := hd L hL
  have h2 := h.stop (by omega)
  omega

theorem head_nine {s : ByteArray} (h : 9 ≤ s.size) : (s.extract 0 9).size = 9 ∧ (Digs (s.extract 0 9) (s.extract 0 9).size ↔ Digs s 9) := by
  obtain ⟨p1, p2, _⟩ := front_facts s 9 h
  refine ⟨p1, ?_⟩
  rw [p1]
  exact p2

set_option maxHeartbeats 800000 in
theorem walk8_none (s : ByteArray) (w : World) (hs : (s.size : Int) ≤ 1048576) (h : Lead s 0) :
    Calls Try.prog 8 #[.string s] w fun e w' => e = .returned (.bool true) ∧ Below w.heap.size w w' := by
  have hsm : s.size ≤ maxLen := by unfold maxLen; omega
  have HL : Hid (Lead s 0) := h
  by_cases h9 : 9 ≤ s.size
  · obtain ⟨p1, p2⟩ := head_nine h9
    have hpm : (s.extract 0 9).size ≤ maxLen := by rw [p1]; unfold maxLen; omega
    have HN : Hid (¬ Digs (s.extract 0 9) (s.extract 0 9).size) := fun hd => not_digs h (by omega) h9 (p2.1 hd)
    clear h p1 p2
    go_enter Try.func8, Try.ntmps8
    go_wp2_with (first | (go_at_call 21; go_must (refine (zz21_no _ _ _ hsm HL.out).mono ?_; rintro e w1 ⟨rfl, hb1⟩; unfold three)) | (go_at_call 11; go_must (refine (all11_no _ _ hpm HN.out).mono ?_; rintro e w2 ⟨rfl, hw⟩; rw [hw]; clear hw w2)) | go_in)
    go_ret
    exact ⟨rfl, hb1⟩
  · clear h
    go_enter Try.func8, Try.ntmps8
    go_wp2_with (first | (go_at_call 21; go_must (refine (zz21_no _ _ _ hsm HL.out).mono ?_; rintro e w1 ⟨rfl, hb1⟩; unfold three)) | go_in)
    go_ret
    exact ⟨rfl, hb1⟩

/-- What the rest begins with. -/
theorem rest_facts {s : ByteArray} {L : Nat} (h : Lead s L) : (s.extract L s.size).size = 0 ∨ (0 < (s.extract L s.size).size ∧ (bt (s.extract L s.size) 0 < 48 ∨ 57 < bt (s.extract L s.size) 0)) := by
  have hle := h.le
  have hz : (s.extract L s.size).size = s.size - L := by rw [ByteArray.size_extract]; omega
  by_cases hlt : L < s.size
  · right
    refine ⟨by omega, ?_⟩
    have e := bt_extract s L s.size 0 (Nat.le_refl _) (by omega)
    rw [Nat.add_zero] at e
    rw [e]
    exact h.stop hlt
  · left; omega

/-- The same walk for each way of the rest. -/
theorem nine_value {s : ByteArray} {L : Nat} (h : Lead s L) (h9 : 9 ≤ L) : wrap64 (hor s 9) = frac s L 9 := by
  have hb := hor_bound s L h.digs 9 h9
  rw [frac_nine_long s L h9, wrap_small hb.1 (by omega)]

set_option maxHeartbeats 1600000 in
theorem walk8_some (s : ByteArray) (L : Nat) (w : World) (hs : (s.size : Int) ≤ 1048576) (h : Lead s L) (h0 : 0 < L) :
    Calls Try.prog 8 #[.string s] w fun e w' => e = .returned (.bool true) ∧ Below w.heap.size w w' := by
  have hsm : s.size ≤ maxLen := by unfold maxLen; omega
  have hle := h.le
  have HL : Hid (Lead s L) := h
  have hrf := rest_facts h
  obtain ⟨R, hR⟩ : ∃ R, R = s.extract L s.size := ⟨_, rfl⟩
  rw [← hR] at hrf
  have HR : Hid (R = s.extract L s.size) := hR
  have hbR := get_bt R
  obtain ⟨F, hF⟩ : ∃ F, F = frac s L 9 := ⟨_, rfl⟩
  have hfb := frac_le s L 9 h.digs (Nat.le_refl _)
  rw [← hF] at hfb
  obtain ⟨hF0, hF1⟩ := hfb
  have HF : Hid (F = frac s L 9) := hF
  clear h hR hF
  have hways : (R.size = 0) ∨ (0 < R.size ∧ bt R 0 < 48) ∨ (0 < R.size ∧ 57 < bt R 0) := by omega
  clear hrf
  by_cases h9 : 9 ≤ s.size
  · obtain ⟨p1, p2⟩ := head_nine h9
    have hpm : (s.extract 0 9).size ≤ maxLen := by rw [p1]; unfold maxLen; omega
    by_cases hL9 : 9 ≤ L
    · have HD : Hid (Digs s 9) := fun j hj => HL.out.digs j (by omega)
      have HN : Hid (Digs (s.extract 0 9) (s.extract 0 9).size) := p2.2 HD.out
      have HV : Hid (wrap64 (hor s 9) = F) := (nine_value HL.out hL9).trans HF.out.symm
      clear p1 p2
      rcases hways with hw0 | ⟨hw0, hw1⟩ | ⟨hw0, hw1⟩
      all_goals
        go_enter Try.func8, Try.ntmps8
        go_wp2_with (first | (go_at_call 21; go_must (refine (zz21_yes _ _ L _ hsm HL.out h0).mono ?_; rintro e w1 ⟨rfl, hb1⟩; unfold three; rw [← HF.out, ← HR.out])) | (go_at_call 11; go_must (refine (all11_yes _ _ hpm HN.out).mono ?_; rintro e w2 ⟨rfl, hw⟩; rw [hw]; clear hw w2)) | (go_at_call 13; go_must (refine (zz13_yes s true 9 _ hsm h9 HD.out).mono ?_; rintro e w2 ⟨rfl, hb2⟩; unfold three; rw [HV.out])) | go_in)
        go_ret
        exact ⟨rfl, hb1.trans (hb2.mono hb1.size)⟩
    · have HN : Hid (¬ Digs (s.extract 0 9) (s.extract 0 9).size) := fun hd => not_digs HL.out (by omega) h9 (p2.1 hd)
      clear p1 p2
      rcases hways with hw0 | ⟨hw0, hw1⟩ | ⟨hw0, hw1⟩
      all_goals
        go_enter Try.func8, Try.ntmps8
        go_wp2_with (first | (go_at_call 21; go_must (refine (zz21_yes _ _ L _ hsm HL.out h0).mono ?_; rintro e w1 ⟨rfl, hb1⟩; unfold three; rw [← HF.out, ← HR.out])) | (go_at_call 11; go_must (refine (all11_no _ _ hpm HN.out).mono ?_; rintro e w2 ⟨rfl, hw⟩; rw [hw]; clear hw w2)) | go_in)
        go_ret
        exact ⟨rfl, hb1⟩
  · rcases hways with hw0 | ⟨hw0, hw1⟩ | ⟨hw0, hw1⟩
    all_goals
      go_enter Try.func8, Try.ntmps8
      go_wp2_with (first | (go_at_call 21; go_must (refine (zz21_yes _ _ L _ hsm HL.out h0).mono ?_; rintro e w1 ⟨rfl, hb1⟩; unfold three; rw [← HF.out, ← HR.out])) | go_in)
      go_ret
      exact ⟨rfl, hb1⟩

set_option maxHeartbeats 800000 in
theorem walk8_out (s : ByteArray) (w : World) (h : 1048576 < (s.size : Int)) :
    Calls Try.prog 8 #[.string s] w fun e w' => e = .returned (.bool true) ∧ Below w.heap.size w w' := by
  go_enter Try.func8, Try.ntmps8
  go_wp2
  go_ret
  exact ⟨rfl, Below.refl _ _⟩

theorem walk8 (s : ByteArray) (w : World) (_hs : s.size ≤ maxLen) :
    Calls Try.prog 8 #[.string s] w fun e w' => e = .returned (.bool true) ∧ Below w.heap.size w w' := by
  by_cases h : 1048576 < (s.size : Int)
  · exact walk8_out s w h
  · obtain ⟨L, hL⟩ := exists_lead s
    by_cases h0 : 0 < L
    · exact walk8_some s L w (by omega) hL h0
    · obtain rfl : L = 0 := by omega
      exact walk8_none s w (by omega) hL
end Go.Proofs.Qxb6600333a
