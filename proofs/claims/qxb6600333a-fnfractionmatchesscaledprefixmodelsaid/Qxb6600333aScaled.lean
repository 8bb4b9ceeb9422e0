/-
  The walk of FnFractionMatchesScaledPrefixModel.
-/
import Derived.Test.Qxb6600333aModel
namespace Go.Proofs.Qxb6600333a
open Go.RowKit
set_option linter.unusedVariables false

theorem Digs.mono {s : ByteArray} {n k : Nat} (h : Digs s n) (hk : k ≤ n) : Digs s k := fun j hj => h j (by omega)

/-- The scaled value: as the walk reckons it. -/
theorem scaled {s : ByteArray} {L k : Nat} (h : Lead s L) (hk : k ≤ L) (hk9 : k ≤ 9) (hkL : k = L ∨ (k = 9 ∧ 9 ≤ L)) :
    (s.extract 0 k).size = k ∧ Digs (s.extract 0 k) (s.extract 0 k).size ∧ ∃ V : Int, wrap64 (hor (s.extract 0 k) (s.extract 0 k).size) = V ∧ 0 ≤ V ∧ V ≤ 1000000000 ∧ V * 10 ^ (9 - k) = frac s L 9 := by
  have hle := h.le
  obtain ⟨p1, p2, p3⟩ := front_facts s k (by omega)
  have hd := h.digs.mono hk
  have hb := hor_bound s k hd k (Nat.le_refl _)
  have hp := pow_le_nine hk9
  refine ⟨p1, by rw [p1, p2]; exact hd, hor s k, ?_, hb.1, by omega, ?_⟩
  · rw [p1, p3, wrap_small hb.1 (by omega)]
  · rcases hkL with rfl | ⟨rfl, h9⟩
    · exact (frac_nine_short s k hk9).symm
    · rw [frac_nine_long s L h9, Nat.sub_self, Int.pow_zero, Int.mul_one]

set_option maxHeartbeats 800000 in
theorem walk7_core (s : ByteArray) (ok : Bool) (L k : Nat) (w : World) (hs : (s.size : Int) ≤ 1048576) (h : Lead s L) (h0 : 0 < L) (hk : k ≤ L) (hk9 : k ≤ 9) (hkL : (k = L ∧ (L : Int) ≤ 9) ∨ (k = 9 ∧ 9 < (L : Int))) :
    Calls Try.prog 7 #[.string s, .bool ok] w fun e w' => e = .returned (.bool true) ∧ Below w.heap.size w w' := by
  have hsm : s.size ≤ maxLen := by unfold maxLen; omega
  have hle := h.le
  have HL : Hid (Lead s L) := h
  have hnz : ((L : Int) == 0) = false := by simp; omega
  obtain ⟨p1, p2, V, p3, hV0, hV1, p4⟩ := scaled h hk hk9 (by omega)
  have hpm : (s.extract 0 k).size ≤ maxLen := by rw [p1]; unfold maxLen; omega
  have HN : Hid (Digs (s.extract 0 k) (s.extract 0 k).size) := p2
  have HV : Hid (wrap64 (hor (s.extract 0 k) (s.extract 0 k).size) = V) := p3
  obtain ⟨P, hP⟩ : ∃ P : Int, P = 10 ^ (9 - k) := ⟨_, rfl⟩
  obtain ⟨F, hF⟩ : ∃ F : Int, F = frac s L 9 := ⟨_, rfl⟩
  have hfb := frac_le s L 9 h.digs (Nat.le_refl _)
  rw [← hF] at hfb p4
  rw [← hP] at p4
  have HP : Hid (P = 10 ^ (9 - k)) := hP
  have HF : Hid (F = frac s L 9) := hF
  have hpv : wrap64 (V * P) = F := by rw [p4, wrap_small hfb.1 (by omega)]
  clear h p1 p2 p3 p4 hP hF
  rcases hkL with ⟨rfl, h9⟩ | ⟨rfl, h9⟩
  · have e9 : (9 : Int) - (k : Int) = ((9 - k : Nat) : Int) := by omega
    go_enter Try.func7, Try.ntmps7
    go_wp2_with (first | (go_at_call 20; go_must (refine (lead20 s k _ hsm HL.out).mono ?_; rintro e w1 ⟨rfl, hw⟩; rw [hw]; clear hw w1)) | (go_at_call 12; go_must (refine (value12 _ _ hpm HN.out).mono ?_; rintro e w1 ⟨rfl, hw⟩; rw [hw, HV.out]; clear hw w1)) | (go_at_call 15; go_must (refine (pow15 (9 - k) _ (by omega)).mono ?_; rintro e w1 ⟨rfl, hw⟩; rw [hw, ← HP.out]; clear hw w1)) | (go_at_call 21; go_must (refine (zz21_yes _ _ k _ hsm HL.out h0).mono ?_; rintro e w1 ⟨rfl, hb1⟩; unfold three; rw [← HF.out])) | go_in)
    go_ret
    exact ⟨rfl, hb1⟩
  · go_enter Try.func7, Try.ntmps7
    go_wp2_with (first | (go_at_call 20; go_must (refine (lead20 s L _ hsm HL.out).mono ?_; rintro e w1 ⟨rfl, hw⟩; rw [hw]; clear hw w1)) | (go_at_call 12; go_must (refine (value12 _ _ hpm HN.out).mono ?_; rintro e w1 ⟨rfl, hw⟩; rw [hw, HV.out]; clear hw w1)) | (go_at_call 15; go_must (refine (pow15 0 _ (by omega)).mono ?_; rintro e w1 ⟨rfl, hw⟩; rw [hw, show (10 : Int) ^ 0 = P from HP.out.symm]; clear hw w1)) | (go_at_call 21; go_must (refine (zz21_yes _ _ L _ hsm HL.out h0).mono ?_; rintro e w1 ⟨rfl, hb1⟩; unfold three; rw [← HF.out])) | go_in)
    go_ret
    exact ⟨rfl, hb1⟩

set_option maxHeartbeats 800000 in
theorem walk7_none (s : ByteArray) (ok : Bool) (w : World) (hs : (s.size : Int) ≤ 1048576) (h : Lead s 0) :
    Calls Try.prog 7 #[.string s, .bool ok] w fun e w' => e = .returned (.bool true) ∧ Below w.heap.size w w' := by
  have hsm : s.size ≤ maxLen := by unfold maxLen; omega
  have HL : Hid (Lead s 0) := h
  clear h
  go_enter Try.func7, Try.ntmps7
  go_wp2_with (first | (go_at_call 20; go_must (refine (lead20 s 0 _ hsm HL.out).mono ?_; rintro e w1 ⟨rfl, hw⟩; rw [hw]; clear hw w1)) | (go_at_call 21; go_must (refine (zz21_no _ _ _ hsm HL.out).mono ?_; rintro e w1 ⟨rfl, hb1⟩; unfold three)) | go_in)
  go_ret
  exact ⟨rfl, hb1⟩

set_option maxHeartbeats 800000 in
theorem walk7_out (s : ByteArray) (ok : Bool) (w : World) (h : 1048576 < (s.size : Int)) :
    Calls Try.prog 7 #[.string s, .bool ok] w fun e w' => e = .returned (.bool true) ∧ Below w.heap.size w w' := by
  go_enter Try.func7, Try.ntmps7
  go_wp2
  go_ret
  exact ⟨rfl, Below.refl _ _⟩

theorem walk7 (s : ByteArray) (ok : Bool) (w : World) (_hs : s.size ≤ maxLen) :
    Calls Try.prog 7 #[.string s, .bool ok] w fun e w' => e = .returned (.bool true) ∧ Below w.heap.size w w' := by
  by_cases h : 1048576 < (s.size : Int)
  · exact walk7_out s ok w h
  · obtain ⟨L, hL⟩ := exists_lead s
    by_cases h0 : 0 < L
    · by_cases h9 : L ≤ 9
      · exact walk7_core s ok L L w (by omega) hL h0 (Nat.le_refl _) h9 (.inl ⟨rfl, by omega⟩)
      · exact walk7_core s ok L 9 w (by omega) hL h0 (by omega) (Nat.le_refl _) (.inr ⟨rfl, by omega⟩)
    · obtain rfl : L = 0 := by omega
      exact walk7_none s ok w (by omega) hL
end Go.Proofs.Qxb6600333a
