/-
  The walk of FnFractionIgnoresTrailingZeros.
-/
import Derived.Test.Qxb6600333aFraction
import Derived.Test.Qxb6600333aBytes
import Derived.Deep.RegionWith
namespace Go.Proofs.Qxb6600333a
open Go.RowKit
set_option linter.unusedVariables false

/-! ### The plain law -/
def zs (m : Nat) : ByteArray := ofInts (List.replicate m 48)
theorem zs_size (m : Nat) : (zs m).size = m := by rw [zs, size_ofInts, List.length_replicate]
theorem zs_bt (m j : Nat) (h : j < m) : bt (zs m) j = 48 := by
  unfold zs
  rw [bt_ofInts _ j (by rw [List.length_replicate]; exact h)] <;> simp

def widened (s : ByteArray) (L m : Nat) : ByteArray := s.extract 0 L ++ zs m ++ s.extract L s.size

theorem head_size (s : ByteArray) (L m : Nat) (h : L ≤ s.size) : (s.extract 0 L ++ zs m).size = L + m := by
  rw [size_append, size_extract0 s L h, zs_size]

theorem tail_size (s : ByteArray) (L : Nat) : (s.extract L s.size).size = s.size - L := by
  rw [ByteArray.size_extract]; omega

theorem widened_size (s : ByteArray) (L m : Nat) (h : L ≤ s.size) : (widened s L m).size = s.size + m := by
  unfold widened
  rw [size_append, head_size s L m h, tail_size]
  omega

theorem widened_left (s : ByteArray) (L m j : Nat) (h : L ≤ s.size) (hj : j < L) : bt (widened s L m) j = bt s j := by
  unfold widened
  rw [bt_append_left _ _ _ (by rw [head_size s L m h]; omega), bt_append_left _ _ _ (by rw [size_extract0 s L h]; exact hj)]
  have := bt_extract s 0 L j h (by omega)
  rw [Nat.zero_add] at this
  exact this

theorem widened_mid (s : ByteArray) (L m j : Nat) (h : L ≤ s.size) (h1 : L ≤ j) (h2 : j < L + m) : bt (widened s L m) j = 48 := by
  unfold widened
  rw [bt_append_left _ _ _ (by rw [head_size s L m h]; omega), bt_append_right _ _ _ (by rw [size_extract0 s L h]; exact h1), size_extract0 s L h]
  exact zs_bt m _ (by omega)

theorem widened_stop (s : ByteArray) (L m : Nat) (h : L < s.size) : bt (widened s L m) (L + m) = bt s L := by
  unfold widened
  have e := head_size s L m (by omega)
  rw [bt_append_right _ _ _ (by omega), e, Nat.sub_self]
  have := bt_extract s L s.size 0 (Nat.le_refl _) (by omega)
  rw [Nat.add_zero] at this
  exact this

theorem widened_lead {s : ByteArray} {L : Nat} (m : Nat) (h : Lead s L) : Lead (widened s L m) (L + m) := by
  have hle := h.le
  refine ⟨by rw [widened_size s L m hle]; omega, fun j hj => ?_, fun hlt => ?_⟩
  · by_cases hj' : j < L
    · rw [widened_left s L m j hle hj']; exact h.digs j hj'
    · rw [widened_mid s L m j hle (by omega) hj]; omega
  · rw [widened_size s L m hle] at hlt
    rw [widened_stop s L m (by omega)]
    exact h.stop (by omega)

theorem widened_frac {s : ByteArray} {L : Nat} (m : Nat) (h : L ≤ s.size) : frac (widened s L m) (L + m) 9 = frac s L 9 := by
  refine frac_congr _ _ _ _ 9 fun j _ => ?_
  by_cases h1 : j < L
  · rw [if_pos (by omega), if_pos h1, widened_left s L m j h h1]
  · by_cases h2 : j < L + m
    · rw [if_pos h2, if_neg h1, widened_mid s L m j h (by omega) h2]; rfl
    · rw [if_neg h2, if_neg h1]

theorem widened_rest {s : ByteArray} {L : Nat} (m : Nat) (h : L ≤ s.size) : (widened s L m).extract (L + m) (widened s L m).size = s.extract L s.size := by
  have e := extract_append_right (s.extract 0 L ++ zs m) (s.extract L s.size)
  rw [head_size s L m h] at e
  exact e

/-! ### The walk -/
theorem below_two {w W w1 w2 : World} (b0 : Below w.heap.size w W) (hb1 : Below W.heap.size W w1) (hb2 : Below w1.heap.size w1 w2) : Below w.heap.size w w2 := by
  have h1 := b0.size
  have h2 := hb1.size
  exact (b0.trans (hb1.mono h1)).trans (hb2.mono (by omega))

theorem info5 : (Try.prog.info? 5).map (fun i => (i.zero, i.size, i.bytes)) = some (some (.int .u8 0), 1, 1) := by kernel_rfl

theorem fill48 {c : Array Value} {k : Nat} (hk : k < c.size) (hall : ∀ j, j < k → c[j]? = some (.int .u8 48)) :
    ∀ j, j < k + 1 → (c.setIfInBounds k (.int .u8 48))[j]? = some (.int .u8 48) := by
  intro j hj
  by_cases e : k = j
  · subst e; simp [hk]
  · rw [Array.getElem?_setIfInBounds_ne e]; exact hall j (by omega)

set_option maxHeartbeats 1600000 in
theorem walk9_in (s : ByteArray) (m L : Nat) (w : World) (hs : (s.size : Int) ≤ 1048576) (hm : (m : Int) ≤ 65536) (h : Lead s L) (h0 : 0 < L) :
    Calls Try.prog 9 #[.string s, .int .i64 m] w fun e w' => e = .returned (.bool true) ∧ Below w.heap.size w w' := by
  have hsm : s.size ≤ maxLen := by unfold maxLen; omega
  have hle := h.le
  have HL : Hid (Lead s L) := h
  have hnz : ((L : Int) == 0) = false := by simp; omega
  obtain ⟨i0, hi, hz0, hz1, hz2⟩ := info_parts info5
  have hmk := fun w => run_make (P := Try.prog) w 30 5 i0 (.int .u8 0) Try.underlying30 hi hz0 .i64 .i64 m m (by omega) (by omega) (by rw [hz2]; omega) (by omega)
  rw [hz1] at hmk
  clear h hi hz0 hz1 hz2
  go_enter Try.func9, Try.ntmps9
  go_wp2_with (first | (go_at_call 20; go_must (refine (lead20 s L _ hsm HL.out).mono ?_; rintro e w1 ⟨rfl, hw⟩; rw [hw]; clear hw w1)) | go_in)
  go_loopw [7] (fun i wr => ∃ (k : Nat) (c : Array Value), k ≤ m ∧ i = .int .i64 k ∧ wr = w.alloc (.cells c 5) ∧ c.size = m ∧ ∀ j, j < k → c[j]? = some (.int .u8 48)) (fun i _ => m - (intOf i).toNat)
  case atStart => exact ⟨0, _, Nat.zero_le _, rfl, rfl, by simp [size_madeCells], fun j h => absurd h (Nat.not_lt_zero _)⟩
  case round =>
    obtain ⟨k, c, hk, rfl, rfl, hc, hall⟩ := hrel
    have HA : Hid (∀ j, j < k → c[j]? = some (.int .u8 48)) := hall
    clear hall hmk
    by_cases hlt : k < m
    · go_wp2
      go_roundw
      case rel => exact ⟨k + 1, _, by omega, by go_num, rfl, by simp [hc], fill48 (by omega) HA.out⟩
      case measure => simp [intOf]; omega
    · have hcells : ∀ j, j < m → (w.alloc (.cells c 5)).cell? ((⟨w.heap.size, 0, none⟩ : Addr).add j) = some (.int .u8 ((List.replicate m (48 : Int)).getD j 0)) := by
        intro j hj
        have h1 := HA.out j (by omega)
        rw [Go.WideShapes.add_plain]
        simp [h1, List.getD_eq_getElem?_getD, hj]
      have hconv : ∀ q, (convert 30 9 (Value.slice (some ⟨w.heap.size, 0, none⟩) m m)).run Try.prog ((w.alloc (.cells c 5)).drewN q) = .ok (.string (zs m)) ((w.alloc (.cells c 5)).drewN q) :=
        fun q => conv_bytes _ _ _ _ _ (List.length_replicate ..) hcells
      have hzs := zs_size m
      have hes := size_extract0 s L hle
      have hts := tail_size s L
      clear HA hcells
      have HT : Hid (Lead (s.extract 0 L ++ zs m ++ s.extract L s.size) (L + m) ∧ frac (s.extract 0 L ++ zs m ++ s.extract L s.size) (L + m) 9 = frac s L 9 ∧
          (s.extract 0 L ++ zs m ++ s.extract L s.size).extract (L + m) (s.extract 0 L ++ zs m ++ s.extract L s.size).size = s.extract L s.size ∧ (s.extract 0 L ++ zs m ++ s.extract L s.size).size ≤ maxLen) :=
        ⟨widened_lead m HL.out, widened_frac m hle, widened_rest m hle, by have := widened_size s L m hle; unfold widened at this; rw [this]; unfold maxLen; omega⟩
      generalize zs m = Z at hconv hzs HT
      go_wp2
      go_quiet (fail)
      go_wp2_with (first | (go_at_call_of 21 (Value.string s); go_must (refine (zz21_yes _ _ L _ hsm HL.out h0).mono ?_; rintro e w1 ⟨rfl, hb1⟩; unfold three)) | (go_at_call 21; go_must (refine (zz21_yes _ _ (L + m) _ HT.out.2.2.2 HT.out.1 (by omega)).mono ?_; rintro e w2 ⟨rfl, hb2⟩; unfold three; rw [HT.out.2.1, HT.out.2.2.1])))
      go_ret
      exact ⟨rfl, below_two (below_drewN ((Below.refl _ _).alloc (Nat.le_refl _) _) _) hb1 hb2⟩

set_option maxHeartbeats 800000 in
theorem walk9_out (s : ByteArray) (m : Int) (w : World) (h : 1048576 < (s.size : Int) ∨ ((s.size : Int) ≤ 1048576 ∧ m < 0) ∨ ((s.size : Int) ≤ 1048576 ∧ 65536 < m)) :
    Calls Try.prog 9 #[.string s, .int .i64 m] w fun e w' => e = .returned (.bool true) ∧ Below w.heap.size w w' := by
  rcases h with h | ⟨h, h'⟩ | ⟨h, h'⟩
  all_goals
    go_enter Try.func9, Try.ntmps9
    go_wp2
    go_ret
    exact ⟨rfl, Below.refl _ _⟩

set_option maxHeartbeats 800000 in
theorem walk9_none (s : ByteArray) (m : Int) (w : World) (hs : (s.size : Int) ≤ 1048576) (hm0 : 0 ≤ m) (hm : m ≤ 65536) (h : Lead s 0) :
    Calls Try.prog 9 #[.string s, .int .i64 m] w fun e w' => e = .returned (.bool true) ∧ Below w.heap.size w w' := by
  have hsm : s.size ≤ maxLen := by unfold maxLen; omega
  have HL : Hid (Lead s 0) := h
  clear h
  go_enter Try.func9, Try.ntmps9
  go_wp2_with (first | (go_at_call 20; go_must (refine (lead20 s 0 _ hsm HL.out).mono ?_; rintro e w1 ⟨rfl, hw⟩; rw [hw]; clear hw w1)) | go_in)
  go_ret
  exact ⟨rfl, Below.refl _ _⟩

theorem walk9 (s : ByteArray) (m : Int) (w : World) (_hs : s.size ≤ maxLen) (_hm : (Lit.int .i64 m).wf = true) :
    Calls Try.prog 9 #[.string s, .int .i64 m] w fun e w' => e = .returned (.bool true) ∧ Below w.heap.size w w' := by
  by_cases h : 1048576 < (s.size : Int) ∨ ((s.size : Int) ≤ 1048576 ∧ m < 0) ∨ ((s.size : Int) ≤ 1048576 ∧ 65536 < m)
  · exact walk9_out s m w h
  · obtain ⟨L, hL⟩ := exists_lead s
    by_cases h0 : 0 < L
    · obtain ⟨k, rfl⟩ : ∃ k : Nat, m = (k : Int) := ⟨m.toNat, by omega⟩
      exact walk9_in s k L w (by omega) (by omega) hL h0
    · obtain rfl : L = 0 := by omega
      exact walk9_none s m w (by omega) (by omega) (by omega) hL
end Go.Proofs.Qxb6600333a
