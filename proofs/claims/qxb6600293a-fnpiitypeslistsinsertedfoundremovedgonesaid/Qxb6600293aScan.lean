/-
  The walk of FnPIITypesListsMatchesBackwardScan.
-/
import Derived.Test.Qxb6600293aClone
import Derived.Test.Qxb6600293aArgs
namespace Go.Proofs.Qxb6600293a
open Go.RowKit
set_option linter.unusedVariables false

theorem names_drop {ss : List ByteArray} {k : Nat} (h : k < ss.length) (e : ByteArray) : names (ss.drop k) e = (same (ss.getD k ByteArray.empty) e || names (ss.drop (k + 1)) e) := by
  have e1 : ss.drop k = ss.getD k ByteArray.empty :: ss.drop (k + 1) := by
    rw [List.drop_eq_getElem_cons h, List.getD_eq_getElem?_getD, List.getElem?_eq_getElem h]; rfl
  rw [e1]
  simp [names]

theorem names_hit {ss : List ByteArray} {k : Nat} {e : ByteArray} (h : k < ss.length) (hs : same (ss.getD k ByteArray.empty) e = true) : names ss e = true := by
  unfold names
  rw [List.any_eq_true]
  refine ⟨ss.getD k ByteArray.empty, ?_, hs⟩
  rw [List.getD_eq_getElem?_getD, List.getElem?_eq_getElem h]
  exact List.getElem_mem h

set_option maxHeartbeats 800000 in
theorem walk5_in (a : Option Addr) (n cap : Nat) (ss : List ByteArray) (e : ByteArray) (w : World) (hn : (n : Int) ≤ 65536) (he : (e.size : Int) ≤ 65536) (h : Has w a n ss) (h0 : a = none → n = 0 ∧ cap = 0) :
    Calls Try.prog 5 #[.slice a n cap, .string e] w fun e' w' => e' = .returned (.bool true) ∧ Below w.heap.size w w' := by
  have hn' : n ≤ maxLen := by unfold maxLen; omega
  have he' : e.size ≤ maxLen := by unfold maxLen; omega
  have HH : Hid (Has w a n ss) := h
  have H0 : Hid (a = none → n = 0 ∧ cap = 0) := h0
  clear h h0
  go_enter Try.func5, Try.ntmps5
  go_wp2_with (first | (go_at_call 13; go_must (refine (bytes13 _ _ _ ss _ _ hn' he' HH.out).mono ?_; rintro e w1 ⟨⟨b, rfl⟩, hw⟩; rw [hw]; clear hw w1)) | (go_at_call 14; go_must (refine (bytes14 _ _ _ ss _ hn HH.out).mono ?_; rintro e w1 ⟨⟨z, rfl, hz0, hz1⟩, hw⟩; rw [hw]; clear hw w1)) | (go_at_call 15; go_must (refine (clone15_any _ _ _ ss _ hn HH.out H0.out).mono ?_; rintro e w1 ⟨⟨a1, cap1, rfl, hhas⟩, hbel⟩; have HH1 : Hid (Has w1 a1 n ss) := hhas; clear hhas)))
  · go_ret; exact ⟨rfl, Below.refl _ _⟩
  · go_ret; exact ⟨rfl, Below.refl _ _⟩
  · go_loopw [5, 6] (fun v i wr => ∃ k : Nat, k ≤ n ∧ i = .int .i64 (k - 1) ∧ v = .bool false ∧ names (ss.drop k) e = false ∧ Has wr a1 n ss ∧ Below w.heap.size w wr) (fun _ i _ => (intOf i + 1).toNat)
    case atStart => exact ⟨n, Nat.le_refl _, rfl, rfl, by rw [List.drop_of_length_le (by rw [HH.out.1]; exact Nat.le_refl _)]; rfl, HH1.out, hbel⟩
    case round =>
      obtain ⟨k, hk, rfl, rfl, hno, hhas, hbr⟩ := hrel
      have HN : Hid (names (ss.drop k) e = false) := hno
      have HR : Hid (Has wr a1 n ss) := hhas
      clear hno hhas
      by_cases hlt : 0 < k
      · obtain ⟨j, rfl⟩ : ∃ j, k = j + 1 := ⟨k - 1, by omega⟩
        have ej : ((j + 1 : Nat) : Int) - 1 = (j : Int) := by omega
        rw [ej]
        clear ej
        obtain ⟨b, off, rfl, hbw, hc, hmx⟩ := HR.out.2 j (by omega)
        obtain ⟨s, hs⟩ : ∃ s, s = ss.getD j ByteArray.empty := ⟨_, rfl⟩
        rw [← hs] at hc hmx
        have HS : Hid (s = ss.getD j ByteArray.empty) := hs
        have hnd := names_drop (ss := ss) (k := j) (by rw [HH.out.1]; omega) e
        rw [HN.out, Bool.or_false, ← hs] at hnd
        have HD : Hid (names (ss.drop j) e = same s e) := hnd
        clear hs hnd
        by_cases hse : same s e = true
        · go_wp2_with (first | (go_at_call 16; go_must (refine (eq16 _ _ _ hmx he').mono ?_; rintro e w2 ⟨rfl, hb2⟩; have HR2 : Hid (Has _ _ _ _) := HR.out.below hb2; rw [hse])) | (go_at_call 17; go_must (refine (lists17 _ _ _ ss _ _ hn' HR2.out.row).mono ?_; rintro e w3 ⟨rfl, hw⟩; rw [hw]; clear hw w3)))
          go_ret
          exact ⟨ret_bool (names_hit (k := j) (by rw [HH.out.1]; omega) (by rw [← HS.out]; exact hse)), hbr.trans (hb2.mono hbr.size)⟩
        · have hsf : same s e = false := by simpa using hse
          clear hse
          go_wp2_with (first | (go_at_call 16; go_must (refine (eq16 _ _ _ hmx he').mono ?_; rintro e w2 ⟨rfl, hb2⟩; have HR2 : Hid (Has _ _ _ _) := HR.out.below hb2; rw [hsf])))
          go_roundw
          case rel => exact ⟨j, by omega, rfl, rfl, HD.out.trans hsf, HR2.out, hbr.trans (hb2.mono hbr.size)⟩
          case measure => simp [intOf]
      · obtain rfl : k = 0 := by omega
        have hno : names ss e = false := HN.out
        go_wp2_with (first | (go_at_call 17; go_must (refine (lists17 _ _ _ ss _ _ hn' HR.out.row).mono ?_; rintro e w3 ⟨rfl, hw⟩; rw [hw, hno]; clear hw w3)))
        go_ret
        exact ⟨rfl, hbr⟩

set_option maxHeartbeats 800000 in
theorem walk5_out (a : Option Addr) (n cap : Nat) (ss : List ByteArray) (e : ByteArray) (w : World) (hn' : n ≤ maxLen) (he' : e.size ≤ maxLen) (hbig : 65536 < (n : Int) ∨ 65536 < (e.size : Int)) (h : Has w a n ss) :
    Calls Try.prog 5 #[.slice a n cap, .string e] w fun e' w' => e' = .returned (.bool true) ∧ Below w.heap.size w w' := by
  have HH : Hid (Has w a n ss) := h
  clear h
  rcases hbig with hb | hb
  all_goals
    go_enter Try.func5, Try.ntmps5
    go_wp2_with (first | (go_at_call 13; go_must (refine (bytes13 _ _ _ ss _ _ hn' he' HH.out).mono ?_; rintro e w1 ⟨⟨b, rfl⟩, hw⟩; rw [hw]; clear hw w1)))
    all_goals (go_ret; exact ⟨rfl, Below.refl _ _⟩)

theorem walk5 (a : Option Addr) (n cap : Nat) (ss : List ByteArray) (e : ByteArray) (w : World) (h : IsStrs w a n cap ss) (he : e.size ≤ maxLen) :
    Calls Try.prog 5 #[.slice a n cap, .string e] w fun e' w' => e' = .returned (.bool true) ∧ Below w.heap.size w w' := by
  obtain ⟨h1, h2, h3⟩ := has_of_strs h
  by_cases hbig : 65536 < (n : Int) ∨ 65536 < (e.size : Int)
  · exact walk5_out a n cap _ e w h3 he hbig h1
  · exact walk5_in a n cap _ e w (by omega) (by omega) h1 h2
end Go.Proofs.Qxb6600293a
