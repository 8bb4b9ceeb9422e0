/-
  The contracts of (*timeScanner).fraction and of its shim.
-/
import Derived.Test.Qxb6600333aScanner
namespace Go.Proofs.Qxb6600333a
open Go.RowKit
set_option linter.unusedVariables false

theorem size_extract0 (s : ByteArray) (L : Nat) (h : L ≤ s.size) : (s.extract 0 L).size = L := by
  rw [ByteArray.size_extract]; omega

theorem bt_extract (s : ByteArray) (a b j : Nat) (hb : b ≤ s.size) (h : a + j < b) : bt (s.extract a b) j = bt s (a + j) := by
  unfold bt
  have h1 : j < (s.extract a b).size := by rw [ByteArray.size_extract]; omega
  rw [dif_pos h1, dif_pos (by omega)]
  rw [ByteArray.getElem_extract]

theorem frac_le (s : ByteArray) (L k : Nat) (h : Digs s L) (hk : k ≤ 9) : 0 ≤ frac s L k ∧ frac s L k < 1000000000 := by
  have h1 := frac_bound s L h k
  have h2 := pow_le_nine hk
  omega

set_option maxHeartbeats 800000 in
theorem fraction_yes (s : ByteArray) (ok : Bool) (L : Nat) (w : World) (hs : s.size ≤ maxLen) (h : Lead s L) (h0 : 0 < L) :
    Calls Try.prog 27 #[.pointer (some ⟨w.heap.size, 0, none⟩)] (w.alloc (.cells #[.string s, .bool ok] 41)) fun e w' =>
      e = .returned (.int .i64 (frac s L 9)) ∧ w' = w.alloc (.cells #[.string (s.extract L s.size), .bool ok] 41) := by
  unfold maxLen at hs
  have HD : Hid (Lead s L) := h
  have hle := h.le
  have hb := get_bt s
  clear h
  go_enter Try.func27, Try.ntmps27
  go_wp2
  go_loop [3] (fun i => ∃ k : Nat, k ≤ L ∧ i = .int .i64 k) (fun i => L - (intOf i).toNat)
  case atStart => exact ⟨0, Nat.zero_le _, rfl⟩
  case round =>
    obtain ⟨k, hk, rfl⟩ := hrel
    by_cases hlt : k < L
    · obtain ⟨h1, h2⟩ := HD.out.digs k hlt
      have hks : k < s.size := by omega
      go_wp2
      go_round
      case rel => exact ⟨k + 1, by omega, by go_num⟩
      case measure => simp [intOf]; omega
    · obtain rfl : k = L := by omega
      have hnz : ((k : Int) == 0) = false := by simp; omega
      have hstop : (¬ k < s.size) ∨ (k < s.size ∧ bt s k < 48) ∨ (k < s.size ∧ 57 < bt s k) := by
        by_cases hls : k < s.size
        · rcases HD.out.stop hls with h1 | h1
          · exact .inr (.inl ⟨hls, h1⟩)
          · exact .inr (.inr ⟨hls, h1⟩)
        · exact .inl hls
      have hts := size_extract0 s k hle
      have HB : Hid (∀ j, j < k → bt (s.extract 0 k) j = bt s j) := fun j hj => by
        have := bt_extract s 0 k j hle (by omega)
        rw [Nat.zero_add] at this
        exact this
      have hbt := get_bt (s.extract 0 k)
      rcases hstop with hls | ⟨hls, h1⟩ | ⟨hls, h1⟩
      all_goals
        go_wp2
        generalize s.extract 0 k = t at hts HB hbt ⊢
        go_loop [5, 45] (fun v i => ∃ (m : Nat) (F : Int), m ≤ 9 ∧ i = .int .i64 m ∧ v = .int .i64 F ∧ F = frac s k m) (fun _ i => 9 - (intOf i).toNat)
        case atStart => exact ⟨0, 0, Nat.zero_le _, rfl, rfl, rfl⟩
        case round =>
          obtain ⟨m, F, hm, rfl, rfl, hF⟩ := hrel
          have hfb := frac_le s k m HD.out.digs hm
          rw [← hF] at hfb
          obtain ⟨hf1, hf2⟩ := hfb
          have HF : Hid (F = frac s k m) := hF
          clear hF
          by_cases h9 : m < 9
          · by_cases hmk : m < k
            · obtain ⟨hd1, hd2⟩ := HD.out.digs m hmk
              have hbe := HB.out m hmk
              have hbx := hbt m (by omega)
              rw [hbe] at hbx
              have HE : Hid (frac s k (m + 1) = F * 10 + (bt s m - 48)) := by
                show frac s k m * 10 + (if m < k then bt s m - 48 else 0) = _
                rw [if_pos hmk, HF.out]
              go_wp2
              go_round
              case rel => exact ⟨m + 1, _, by omega, by go_num, rfl, HE.out.symm⟩
              case measure => simp [intOf]; omega
            · have HE : Hid (frac s k (m + 1) = F * 10) := by
                show frac s k m * 10 + (if m < k then bt s m - 48 else 0) = _
                rw [if_neg hmk, HF.out, Int.add_zero]
              go_wp2
              go_round
              case rel => exact ⟨m + 1, _, by omega, by go_num, rfl, HE.out.symm⟩
              case measure => simp [intOf]; omega
          · obtain rfl : m = 9 := by omega
            go_wp2
            go_ret
            exact ⟨ret_int HF.out, rfl⟩

set_option maxHeartbeats 800000 in
theorem fraction_no (s : ByteArray) (ok : Bool) (w : World) (hs : s.size ≤ maxLen) (h : Lead s 0) :
    Calls Try.prog 27 #[.pointer (some ⟨w.heap.size, 0, none⟩)] (w.alloc (.cells #[.string s, .bool ok] 41)) fun e w' =>
      e = .returned (.int .i64 0) ∧ w' = w.alloc (.cells #[.string s, .bool false] 41) := by
  unfold maxLen at hs
  have hb := get_bt s
  have hstop : (¬ 0 < s.size) ∨ (0 < s.size ∧ bt s 0 < 48) ∨ (0 < s.size ∧ 57 < bt s 0) := by
    by_cases hls : 0 < s.size
    · rcases h.stop hls with h1 | h1
      · exact .inr (.inl ⟨hls, h1⟩)
      · exact .inr (.inr ⟨hls, h1⟩)
    · exact .inl hls
  clear h
  rcases hstop with hls | ⟨hls, h1⟩ | ⟨hls, h1⟩
  all_goals
    go_enter Try.func27, Try.ntmps27
    go_wp2
    go_loop [3] (fun i => i = .int .i64 0) (fun i => (intOf i).toNat)
    case atStart => rfl
    case round =>
      subst hrel
      go_wp2
      go_ret
      exact ⟨rfl, rfl⟩

set_option maxHeartbeats 400000 in
theorem zz21_yes (s : ByteArray) (ok : Bool) (L : Nat) (w : World) (hs : s.size ≤ maxLen) (h : Lead s L) (h0 : 0 < L) :
    Calls Try.prog 21 #[.string s, .bool ok] w fun e w' => e = three (frac s L 9) (s.extract L s.size) ok ∧ Below w.heap.size w w' := by
  have HD : Hid (Lead s L) := h
  clear h
  go_enter Try.func21, Try.ntmps21
  go_wp2_with (go_at_call 27; go_must (refine (fraction_yes s ok L w hs HD.out h0).mono ?_; rintro e w1 ⟨rfl, hw⟩; rw [hw]; clear hw w1))
  go_quiet (fail)
  go_wp2
  go_ret3
  exact ⟨rfl, below_drewN ((Below.refl _ _).alloc (Nat.le_refl _) _) _⟩

set_option maxHeartbeats 400000 in
theorem zz21_no (s : ByteArray) (ok : Bool) (w : World) (hs : s.size ≤ maxLen) (h : Lead s 0) :
    Calls Try.prog 21 #[.string s, .bool ok] w fun e w' => e = three 0 s false ∧ Below w.heap.size w w' := by
  have HD : Hid (Lead s 0) := h
  clear h
  go_enter Try.func21, Try.ntmps21
  go_wp2_with (go_at_call 27; go_must (refine (fraction_no s ok w hs HD.out).mono ?_; rintro e w1 ⟨rfl, hw⟩; rw [hw]; clear hw w1))
  go_quiet (fail)
  go_wp2
  go_ret3
  exact ⟨rfl, below_drewN ((Below.refl _ _).alloc (Nat.le_refl _) _) _⟩
end Go.Proofs.Qxb6600333a
