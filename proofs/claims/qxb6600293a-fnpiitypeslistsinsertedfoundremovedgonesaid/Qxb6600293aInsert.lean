/-
  The walk of FnPIITypesListsInsertedFoundRemovedGone.
-/
import Derived.Test.Qxb6600293aOwn
import Derived.Deep.RegionWith
namespace Go.Proofs.Qxb6600293a
open Go.RowKit
set_option linter.unusedVariables false

set_option maxHeartbeats 1600000 in
theorem walk7_in (a : Option Addr) (n cap : Nat) (ss : List ByteArray) (e : ByteArray) (m : Nat) (w : World) (hn : (n : Int) ≤ 65536) (he : (e.size : Int) ≤ 65536) (hm : (m : Int) ≤ (n : Int)) (h : Has w a n ss) (h0 : a = none → n = 0 ∧ cap = 0) :
    Calls Try.prog 7 #[.slice a n cap, .string e, .int .i64 m] w fun e' w' => e' = .returned (.bool true) ∧ Below w.heap.size w w' := by
  have hn' : n ≤ maxLen := by unfold maxLen; omega
  have he' : e.size ≤ maxLen := by unfold maxLen; omega
  have HH : Hid (Has w a n ss) := h
  have H0 : Hid (a = none → n = 0 ∧ cap = 0) := h0
  clear h h0
  obtain ⟨i0, hi, hz0, hz1, hz2⟩ := info_parts info9
  go_enter Try.func7, Try.ntmps7
  go_wp2_with (first | (go_at_call 19; go_must (refine (bytes19 _ _ _ ss _ _ _ hn' he' HH.out).mono ?_; rintro e w1 ⟨⟨b, rfl⟩, hw⟩; rw [hw]; clear hw w1)) | (go_at_call 14; go_must (refine (bytes14 _ _ _ ss _ hn HH.out).mono ?_; rintro e w1 ⟨⟨z, rfl, hy0, hy1⟩, hw⟩; rw [hw]; clear hw w1)) | (go_at_call 15; go_must (refine (clone15_any _ _ _ ss _ hn HH.out H0.out).mono ?_; rintro e w1 ⟨⟨a1, cap1, rfl, hhas⟩, hbel⟩; have HH1 : Hid (Has w1 a1 n ss) := hhas; clear hhas)) | (at_make; go_must (refine wpList_make_own w1 rfl (.const (.int .i64 0)) (.tmp 43) 38 rfl w1.heap.size 9 i0 (.string ByteArray.empty) 1 Try.underlying38 hi hz0 hz1 .i64 .i64 _ (n + 1) rfl rfl ?c1 ?c2 ?c3 ?c4 ?c5)))
  · go_ret; exact ⟨rfl, Below.refl _ _⟩
  · go_ret; exact ⟨rfl, Below.refl _ _⟩
  case c1 => omega
  case c2 => rw [hz2]; omega
  case c3 => unfold maxLen; omega
  case c4 => exact Nat.le_refl _
  case c5 =>
    intro w2 hown hgrow
    have hown2 : Own w1.heap.size w2 (.slice (some ⟨w1.heap.size, 0, none⟩) 0 (n + 1)) [] := hown
    have hb2 : Below w1.heap.size w1 w2 := (Below.refl _ _).grown hgrow (Nat.le_refl _) (by intro k hk; cases hk)
    clear hown hgrow
    go_wp2
    go_loopw [7, 8] (fun v i wr => ∃ (k : Nat) (L : List ByteArray), k ≤ m ∧ i = .int .i64 k ∧ L.length = k ∧ Own w1.heap.size wr v L ∧ Below w1.heap.size w1 wr) (fun _ i _ => m - (intOf i).toNat)
    case atStart => exact ⟨0, [], Nat.zero_le _, rfl, rfl, hown2, hb2⟩
    case round =>
      obtain ⟨k, L, hk, rfl, hL, hown, hbr⟩ := hrel
      have hsz := hbr.size
      have HL : Hid (L.length = k) := hL
      have hLb : L.length ≤ 65537 := by omega
      clear hL hown2 hb2
      by_cases hlt : k < m
      · obtain ⟨b, off, rfl, hbw, hc, _⟩ := (HH1.out.below hbr).2 k (by omega)
        obtain ⟨s, hs⟩ : ∃ s, s = ss.getD k ByteArray.empty := ⟨_, rfl⟩
        rw [← hs] at hc
        clear hs
        go_wp2_with (at_builtin; go_must (refine wpList_append_own _ rfl (.tmp 50) (.tmp 55) 38 rfl w1.heap.size 9 i0 (.string ByteArray.empty) 1 16 Try.underlying38 hi hz0 hz1 hz2 rfl (by decide) _ L.length (L.map Value.string) rfl (World.ownsRow.alloc hown _) ⟨wr.heap.size, 0, none⟩ 1 1 [.string s] rfl rfl (new_cell _ _) (one_cells _) (fits3 hLb) (fits4 hLb) (fits5 _ hsz) ?_; intro v3 w3 hown3 hgrow3 _; obtain ⟨hown4, hbr4⟩ := own_step hbr hsz hown hown3 hgrow3; clear hown3 hgrow3 hown))
        go_roundw
        case rel => exact ⟨k + 1, L ++ [s], by omega, by go_num, by rw [List.length_append, HL.out]; rfl, hown4, hbr4⟩
        case measure => simp [intOf]; omega
      · have hkm : Hid (k = m) := by have : k = m := by omega
                                     exact this
        go_wp2_with (at_builtin; go_must (refine wpList_append_own _ rfl (.tmp 57) (.tmp 59) 38 rfl w1.heap.size 9 i0 (.string ByteArray.empty) 1 16 Try.underlying38 hi hz0 hz1 hz2 rfl (by decide) _ L.length (L.map Value.string) rfl (World.ownsRow.alloc hown _) ⟨wr.heap.size, 0, none⟩ 1 1 [.string e] rfl rfl (new_cell _ _) (one_cells _) (fits3 hLb) (fits4 hLb) (fits5 _ hsz) ?_; intro v3 w3 hown3 hgrow3 _; obtain ⟨hown4, hbr4⟩ := own_step hbr hsz hown hown3 hgrow3; clear hown3 hgrow3 hown))
        have hnew := names_append_new L e
        have hlen : (L ++ [e]).length ≤ m + 1 := by rw [List.length_append, HL.out]; simp; omega
        go_loopw [7, 9] (fun v i wx => ∃ (k : Nat) (L : List ByteArray), k ≤ n ∧ i = .int .i64 k ∧ L.length ≤ k + 1 ∧ names L e = true ∧ Own w1.heap.size wx v L ∧ Below w1.heap.size w1 wx) (fun _ i _ => n - (intOf i).toNat)
        case atStart => exact ⟨m, L ++ [e], by omega, rfl, hlen, hnew, hown4, hbr4⟩
        case round =>
          clear hlen hnew hown4 hbr4 HL hLb hkm hsz hlt hk hbr
          obtain ⟨k, L, hk, rfl, hL, hin, hown, hbr⟩ := hrel
          have hsz := hbr.size
          have hLb : L.length ≤ 65537 := by omega
          have HL : Hid (L.length ≤ k + 1) := hL
          have HIN : Hid (names L e = true) := hin
          clear hL hin
          by_cases hlt : k < n
          · obtain ⟨b, off, rfl, hbw, hc, _⟩ := (HH1.out.below hbr).2 k hlt
            obtain ⟨s, hs⟩ : ∃ s, s = ss.getD k ByteArray.empty := ⟨_, rfl⟩
            rw [← hs] at hc
            clear hs
            go_wp2_with (at_builtin; go_must (refine wpList_append_own _ rfl (.tmp 68) (.tmp 73) 38 rfl w1.heap.size 9 i0 (.string ByteArray.empty) 1 16 Try.underlying38 hi hz0 hz1 hz2 rfl (by decide) _ L.length (L.map Value.string) rfl (World.ownsRow.alloc hown _) ⟨wr.heap.size, 0, none⟩ 1 1 [.string s] rfl rfl (new_cell _ _) (one_cells _) (fits3 hLb) (fits4 hLb) (fits5 _ hsz) ?_; intro v3 w3 hown3 hgrow3 _; obtain ⟨hown4, hbr4⟩ := own_step hbr hsz hown hown3 hgrow3; clear hown3 hgrow3 hown))
            go_roundw
            case rel => exact ⟨k + 1, L ++ [s], by omega, by go_num, by rw [List.length_append]; have := HL.out; simp; omega, names_append_old s HIN.out, hown4, hbr4⟩
            case measure => simp [intOf]; omega
          · obtain ⟨aw, capw, rfl, hrow⟩ := hown.row
            have HW : Hid (Row wr aw L.length L) := hrow
            have HT : Hid (Has wr a1 n ss) := HH1.out.below hbr
            have hLm : L.length ≤ maxLen := by unfold maxLen; omega
            have hbw : Below w.heap.size w wr := hbel.trans (hbr.mono hbel.size)
            clear hown hrow HL hk hsz hLb hbr HH1 hbel
            obtain ⟨wA, hwA⟩ : ∃ x, x = wr := ⟨_, rfl⟩
            subst hwA
            go_wp2_with (at_make; go_must (refine wpList_make_own wA rfl (.const (.int .i64 0)) (.tmp 76) 38 rfl wA.heap.size 9 i0 (.string ByteArray.empty) 1 Try.underlying38 hi hz0 hz1 .i64 .i64 _ n rfl rfl ?e1 ?e2 ?e3 ?e4 ?e5))
            case e1 => rfl
            case e2 => rw [hz2]; omega
            case e3 => unfold maxLen; omega
            case e4 => exact Nat.le_refl _
            case e5 =>
              intro w2 hown hgrow
              have hown2 : Own wA.heap.size w2 (.slice (some ⟨wA.heap.size, 0, none⟩) 0 n) (kept ss e 0) := hown
              have hb2 : Below wA.heap.size wA w2 := (Below.refl _ _).grown hgrow (Nat.le_refl _) (by intro k hk; cases hk)
              clear hown hgrow
              go_wp2
              go_loopw [10, 11] (fun v i wx => ∃ k : Nat, k ≤ n ∧ i = .int .i64 k ∧ Own wA.heap.size wx v (kept ss e k) ∧ Below wA.heap.size wA wx) (fun _ i _ => n - (intOf i).toNat)
              case atStart => exact ⟨0, Nat.zero_le _, rfl, hown2, hb2⟩
              case round =>
                clear hown2 hb2 hlt
                obtain ⟨k, hk, rfl, hown, hbr⟩ := hrel
                have hsz := hbr.size
                by_cases hlt : k < n
                · have hks := kept_succ (ss := ss) (e := e) (j := k) (by rw [HH.out.1]; exact hlt)
                  have hkl := kept_le ss e k
                  have hLb : (kept ss e k).length ≤ 65537 := by omega
                  obtain ⟨b, off, rfl, hbw', hc, hmx⟩ := (HT.out.below hbr).2 k hlt
                  obtain ⟨s, hs⟩ : ∃ s, s = ss.getD k ByteArray.empty := ⟨_, rfl⟩
                  rw [← hs] at hc hmx hks
                  clear hs hkl
                  by_cases hse : same s e = true
                  · rw [if_pos hse, List.append_nil] at hks
                    have HK : Hid (kept ss e (k + 1) = kept ss e k) := hks
                    clear hks
                    go_wp2_with (first | (go_at_call 16; go_must (refine (eq16 _ _ _ hmx he').mono ?_; rintro e w4 ⟨rfl, hb4⟩; have hown4 := hown.below hb4; have hbr4 := hbr.trans (hb4.mono hsz); clear hown; rw [hse])))
                    go_roundw
                    case rel => exact ⟨k + 1, by omega, by go_num, by rw [HK.out]; exact hown4, hbr4⟩
                    case measure => simp [intOf]; omega
                  · rw [if_neg hse] at hks
                    have HK : Hid (kept ss e (k + 1) = kept ss e k ++ [s]) := hks
                    have hsf : same s e = false := by simpa using hse
                    clear hks hse
                    obtain ⟨L3, hL3⟩ : ∃ L3, L3 = kept ss e k := ⟨_, rfl⟩
                    rw [← hL3] at hown hLb
                    have HL3 : Hid (L3 = kept ss e k) := hL3
                    clear hL3
                    go_wp2_with (first | (go_at_call 16; go_must (refine (eq16 _ _ _ hmx he').mono ?_; rintro e w4 ⟨rfl, hb4⟩; have hown4 := hown.below hb4; have hbr4 := hbr.trans (hb4.mono hsz); have hsz4 := hbr4.size; have hc4 := (hb4.cell (p := ⟨b, off + k, none⟩) hbw').trans hc; clear hown hc hsz hbr; rw [hsf])) | (at_builtin; go_must (refine wpList_append_own _ rfl (.tmp 91) (.tmp 96) 38 rfl wA.heap.size 9 i0 (.string ByteArray.empty) 1 16 Try.underlying38 hi hz0 hz1 hz2 rfl (by decide) _ L3.length (L3.map Value.string) rfl (World.ownsRow.alloc hown4 _) ⟨w4.heap.size, 0, none⟩ 1 1 [.string s] rfl rfl (new_cell _ _) (one_cells _) (fits3 hLb) (fits4 hLb) (fits5 _ hsz4) ?_; intro v5 w5 hown5 hgrow5 _; obtain ⟨hown6, hbr6⟩ := own_step hbr4 hsz4 hown4 hown5 hgrow5; clear hown5 hgrow5 hown4)))
                    go_roundw
                    case rel => exact ⟨k + 1, by omega, by go_num, by rw [HK.out, ← HL3.out]; exact hown6, hbr6⟩
                    case measure => simp [intOf]; omega
                · have hkn : k = n := by omega
                  rw [hkn] at hown
                  have hkl := kept_le ss e n
                  have hno := kept_none ss e n
                  have HLAST : Hid (∀ p, n = p + 1 → same (ss.getD p ByteArray.empty) e = false → names (kept ss e n) (ss.getD p ByteArray.empty) = true) := by
                    intro p hp hs
                    rw [hp]
                    exact kept_last (by rw [HH.out.1]; omega) hs
                  have HW3 : Hid (Row wr aw L.length L) := HW.out.below hbr
                  have HT3 : Hid (Has wr a1 n ss) := HT.out.below hbr
                  have hfin : Below w.heap.size w wr := hbw.trans (hbr.mono hbw.size)
                  obtain ⟨L3, hL3⟩ : ∃ L3, L3 = kept ss e n := ⟨_, rfl⟩
                  rw [← hL3] at hown hkl hno HLAST
                  clear hL3 hkn HW HT
                  obtain ⟨ao, capo, rfl, hrow⟩ := hown.row
                  have HR3 : Hid (Row wr ao L3.length L3) := hrow
                  have hL3m : L3.length ≤ maxLen := by unfold maxLen; omega
                  have hyes : names L e = true := HIN.out
                  clear hown hrow hkl hbr hsz
                  by_cases hn0 : n = 0
                  · have hn0' : ¬ (0 < (n : Int)) := by omega
                    clear hn0
                    go_wp2_with (first | (go_at_call_of 17 (Value.slice aw L.length capw); go_must (refine (lists17 _ _ _ L _ _ hLm HW3.out).mono ?_; rintro e w4 ⟨rfl, hw⟩; rw [hw, hyes]; clear hw w4)) | (go_at_call_of 17 (Value.slice ao L3.length capo); go_must (refine (lists17 _ _ _ L3 _ _ hL3m HR3.out).mono ?_; rintro e w4 ⟨rfl, hw⟩; rw [hw, hno]; clear hw w4)))
                    go_ret
                    exact ⟨rfl, hfin⟩
                  · obtain ⟨p, hp⟩ : ∃ p, n = p + 1 := ⟨n - 1, by omega⟩
                    have hlast := HLAST.out p hp
                    obtain ⟨b, off, hae, hbw', hc, hmx⟩ := HT3.out.2 p (by omega)
                    obtain ⟨s, hs⟩ : ∃ s, s = ss.getD p ByteArray.empty := ⟨_, rfl⟩
                    rw [← hs] at hc hmx hlast
                    clear hs hn0
                    subst hae
                    have hpos : (0 : Int) < (n : Int) := by omega
                    have hix : ((n : Int) - 1) = (p : Int) := by omega
                    have HP : Hid (n = p + 1) := hp
                    clear hp
                    by_cases hse : same s e = true
                    · clear hlast
                      go_wp2_with (first | (go_at_call_of 17 (Value.slice aw L.length capw); go_must (refine (lists17 _ _ _ L _ _ hLm HW3.out).mono ?_; rintro e w4 ⟨rfl, hw⟩; rw [hw, hyes]; clear hw w4)) | (go_at_call_of 17 (Value.string e); go_must (refine (lists17 _ _ _ L3 _ _ hL3m HR3.out).mono ?_; rintro e w4 ⟨rfl, hw⟩; rw [hw, hno]; clear hw w4)) | (go_at_call 16; go_must (refine (eq16 _ _ _ hmx he').mono ?_; rintro e w4 ⟨rfl, hb4⟩; have hfin4 := hfin.trans (hb4.mono hfin.size); rw [hse])))
                      go_ret
                      exact ⟨rfl, hfin4⟩
                    · have hsf : same s e = false := by simpa using hse
                      have hls := hlast hsf
                      clear hse hlast
                      go_wp2_with (first | (go_at_call_of 17 (Value.slice aw L.length capw); go_must (refine (lists17 _ _ _ L _ _ hLm HW3.out).mono ?_; rintro e w4 ⟨rfl, hw⟩; rw [hw, hyes]; clear hw w4)) | (go_at_call_of 17 (Value.string e); go_must (refine (lists17 _ _ _ L3 _ _ hL3m HR3.out).mono ?_; rintro e w4 ⟨rfl, hw⟩; rw [hw, hno]; clear hw w4)) | (go_at_call 16; go_must (refine (eq16 _ _ _ hmx he').mono ?_; rintro e w4 ⟨rfl, hb4⟩; have hfin4 := hfin.trans (hb4.mono hfin.size); have hc4 := (hb4.cell (p := ⟨b, off + p, none⟩) hbw').trans hc; have HR4 : Hid (Row w4 ao L3.length L3) := HR3.out.below hb4; clear hc; rw [hsf])) | (go_at_call_of 17 (Value.string s); go_must (refine (lists17 _ _ _ L3 _ _ hL3m HR4.out).mono ?_; rintro e w5 ⟨rfl, hw⟩; rw [hw, hls]; clear hw w5)))
                      go_ret
                      exact ⟨rfl, hfin4⟩

set_option maxHeartbeats 800000 in
theorem walk7_out (a : Option Addr) (n cap : Nat) (ss : List ByteArray) (e : ByteArray) (m : Int) (w : World) (hn' : n ≤ maxLen) (he' : e.size ≤ maxLen) (hbig : 65536 < (n : Int) ∨ 65536 < (e.size : Int)) (h : Has w a n ss) :
    Calls Try.prog 7 #[.slice a n cap, .string e, .int .i64 m] w fun e' w' => e' = .returned (.bool true) ∧ Below w.heap.size w w' := by
  have HH : Hid (Has w a n ss) := h
  clear h
  rcases hbig with hb | hb
  all_goals
    go_enter Try.func7, Try.ntmps7
    go_wp2_with (first | (go_at_call 19; go_must (refine (bytes19 _ _ _ ss _ _ _ hn' he' HH.out).mono ?_; rintro e w1 ⟨⟨b, rfl⟩, hw⟩; rw [hw]; clear hw w1)))
    all_goals (go_ret; exact ⟨rfl, Below.refl _ _⟩)

set_option maxHeartbeats 800000 in
theorem walk7_off (a : Option Addr) (n cap : Nat) (ss : List ByteArray) (e : ByteArray) (m : Int) (w : World) (hn : (n : Int) ≤ 65536) (he : (e.size : Int) ≤ 65536) (hm : m < 0 ∨ (n : Int) < m) (h : Has w a n ss) :
    Calls Try.prog 7 #[.slice a n cap, .string e, .int .i64 m] w fun e' w' => e' = .returned (.bool true) ∧ Below w.heap.size w w' := by
  have hn' : n ≤ maxLen := by unfold maxLen; omega
  have he' : e.size ≤ maxLen := by unfold maxLen; omega
  have HH : Hid (Has w a n ss) := h
  clear h
  rcases hm with hb | hb
  all_goals
    go_enter Try.func7, Try.ntmps7
    go_wp2_with (first | (go_at_call 19; go_must (refine (bytes19 _ _ _ ss _ _ _ hn' he' HH.out).mono ?_; rintro e w1 ⟨⟨b, rfl⟩, hw⟩; rw [hw]; clear hw w1)) | (go_at_call 14; go_must (refine (bytes14 _ _ _ ss _ hn HH.out).mono ?_; rintro e w1 ⟨⟨z, rfl, hy0, hy1⟩, hw⟩; rw [hw]; clear hw w1)))
    all_goals (go_ret; exact ⟨rfl, Below.refl _ _⟩)

theorem walk7 (a : Option Addr) (n cap : Nat) (ss : List ByteArray) (e : ByteArray) (m : Int) (w : World) (h : IsStrs w a n cap ss) (he : e.size ≤ maxLen) (_hm : (Lit.int .i64 m).wf = true) :
    Calls Try.prog 7 #[.slice a n cap, .string e, .int .i64 m] w fun e' w' => e' = .returned (.bool true) ∧ Below w.heap.size w w' := by
  obtain ⟨h1, h2, h3⟩ := has_of_strs h
  by_cases hbig : 65536 < (n : Int) ∨ 65536 < (e.size : Int)
  · exact walk7_out a n cap _ e m w h3 he hbig h1
  · by_cases hm : m < 0 ∨ (n : Int) < m
    · exact walk7_off a n cap _ e m w (by omega) (by omega) hm h1
    · obtain ⟨k, rfl⟩ : ∃ k : Nat, m = (k : Int) := ⟨m.toNat, by omega⟩
      exact walk7_in a n cap _ e k w (by omega) (by omega) (by omega) h1 h2
end Go.Proofs.Qxb6600293a
