/-
  The walk of FnJailbreakClassifierBoundAgreesWithPIIBound, hasThr = true: one theorem for each way through hasModel, hasUseCPU.
-/
import Derived.Test.Qxb6600293aJHead
import Derived.Deep.RegionWith
namespace Go.Proofs.Qxb6600293a
open Go.RowKit
attribute [local go_sem] run_store_float

set_option maxHeartbeats 800000 in
theorem walk4_111 (m : ByteArray) (t1 : Nat) (t2 : Nat) (s1 : ByteArray) (b4 b5 : Bool) (s2 : ByteArray) (b6 : Bool) (w : World) (hm : m.size ≤ maxLen) (h1 : s1.size ≤ maxLen) (h2 : s2.size ≤ maxLen)
    (hne : (m.toList == [99, 111, 110, 116, 114, 97, 115, 116, 105, 118, 101]) = false)
    (q0 : (m.size : Int) ≤ 65536) (q1 : (s1.size : Int) ≤ 65536) (q2 : (s2.size : Int) ≤ 65536) :
    Calls Try.prog 4 #[.string m, .bool true, .float .f64 t1, .bool true, .float .f64 t2, .string s1, .bool true, .bool b4, .bool b5, .string s2, .bool b6] w
      fun e w' => e = .returned (.bool true) ∧ Below w.heap.size w w' := by
  go_enter Try.func4, Try.ntmps4
  go_wp2_with (go_at_call 11; refine (bytes11 _ _ _ _ _ _ _ _ _ _ _ _ hm h1 h2).mono ?_; rintro e w' ⟨⟨b, rfl⟩, hw⟩; rw [hw]; clear hw w')
  · go_ret; exact ⟨rfl, Below.refl _ _⟩
  · generalize hW : World.alloc _ _ = W
    have bel : Below w.heap.size w W := by
      rw [← hW]
      repeat (first | exact Below.refl _ _ | refine Below.alloc ?_ (by simp; try omega) _)
    have hsz : w.heap.size + 8 = W.heap.size := by rw [← hW]; simp
    have j0 : W.cell? ⟨w.heap.size + 1 + 1, 0, none⟩ = some (.string ⟨#[]⟩) := by rw [← hW]; clear hW; go_simp
    have j1 : W.cell? ⟨w.heap.size + 1 + 1, 1, none⟩ = some (.string m) := by rw [← hW]; clear hW; go_simp
    have j2 : W.cell? ⟨w.heap.size + 1 + 1, 2, none⟩ = some (.pointer (some ⟨w.heap.size + 1 + 1 + 1 + 1, 0, none⟩)) := by rw [← hW]; clear hW; go_simp
    have j3 : W.cell? ⟨w.heap.size + 1 + 1, 3, none⟩ = some (.bool false) := by rw [← hW]; clear hW; go_simp
    have j4 : W.cell? ⟨w.heap.size + 1 + 1, 4, none⟩ = some (.slice none 0 0) := by rw [← hW]; clear hW; go_simp
    have j5 : W.cell? ⟨w.heap.size + 1 + 1, 5, none⟩ = some (.slice none 0 0) := by rw [← hW]; clear hW; go_simp
    have p0 : W.cell? ⟨w.heap.size + 1 + 1 + 1, 0, none⟩ = some (.string ⟨#[]⟩) := by rw [← hW]; clear hW; go_simp
    have p1 : W.cell? ⟨w.heap.size + 1 + 1 + 1, 1, none⟩ = some (.pointer (some ⟨w.heap.size + 1 + 1 + 1 + 1 + 1, 0, none⟩)) := by rw [← hW]; clear hW; go_simp
    have p2 : W.cell? ⟨w.heap.size + 1 + 1 + 1, 2, none⟩ = some (.slice none 0 0) := by rw [← hW]; clear hW; go_simp
    have p3 : W.cell? ⟨w.heap.size + 1 + 1 + 1, 3, none⟩ = some (.bool false) := by rw [← hW]; clear hW; go_simp
    have x1 : W.cell? ⟨w.heap.size + 1 + 1 + 1 + 1, 0, none⟩ = some (.float .f64 t1) := by rw [← hW]; clear hW; go_simp
    have x2 : W.cell? ⟨w.heap.size + 1 + 1 + 1 + 1 + 1, 0, none⟩ = some (.float .f64 t1) := by rw [← hW]; clear hW; go_simp
    clear hW hm h1 h2 q0 q1 q2
    go_region_with (first | (go_at_call 10; go_must (refine (jb_thr _ _ _ _ _ _ _ _ t1 _ ?_ ?_).mono ?_; (focus ((try simp); omega)); (focus (go_simp)); rintro e w1 ⟨rfl, hb1⟩; have hz1 : W.heap.size ≤ w1.heap.size := hb1.size; have p0' := carry hb1 (v := .string ⟨#[]⟩) p0 (by simp; omega); have p1' := carry hb1 (v := .pointer (some ⟨w.heap.size + 1 + 1 + 1 + 1 + 1, 0, none⟩)) p1 (by simp; omega); have p2' := carry hb1 (v := .slice none 0 0) p2 (by simp; omega); have p3' := carry hb1 (v := .bool false) p3 (by simp; omega); have x2' := carry hb1 (v := .float .f64 t1) x2 (by simp; omega); clear j0 j1 j2 j3 j4 j5 p0 p1 p2 p3 x1 x2)) | (go_at_call 12; go_must (refine (pii_thr _ _ _ _ _ _ t1 _ ?_ ?_).mono ?_; (focus ((try simp); omega)); (focus (go_simp)); rintro e w2 ⟨rfl, hb2⟩)) | (go_at_call 9; go_must (refine (same_refl _ _).mono ?_; rintro e w3 ⟨rfl, rfl⟩)))
    all_goals (go_wp2; go_ret; exact ⟨rfl, fin bel hb1 (by assumption)⟩)

set_option maxHeartbeats 800000 in
theorem walk4_110 (m : ByteArray) (t1 : Nat) (t2 : Nat) (s1 : ByteArray) (b4 b5 : Bool) (s2 : ByteArray) (b6 : Bool) (w : World) (hm : m.size ≤ maxLen) (h1 : s1.size ≤ maxLen) (h2 : s2.size ≤ maxLen)
    (hne : (m.toList == [99, 111, 110, 116, 114, 97, 115, 116, 105, 118, 101]) = false)
    (q0 : (m.size : Int) ≤ 65536) (q1 : (s1.size : Int) ≤ 65536) (q2 : (s2.size : Int) ≤ 65536) :
    Calls Try.prog 4 #[.string m, .bool true, .float .f64 t1, .bool true, .float .f64 t2, .string s1, .bool false, .bool b4, .bool b5, .string s2, .bool b6] w
      fun e w' => e = .returned (.bool true) ∧ Below w.heap.size w w' := by
  go_enter Try.func4, Try.ntmps4
  go_wp2_with (go_at_call 11; refine (bytes11 _ _ _ _ _ _ _ _ _ _ _ _ hm h1 h2).mono ?_; rintro e w' ⟨⟨b, rfl⟩, hw⟩; rw [hw]; clear hw w')
  · go_ret; exact ⟨rfl, Below.refl _ _⟩
  · generalize hW : World.alloc _ _ = W
    have bel : Below w.heap.size w W := by
      rw [← hW]
      repeat (first | exact Below.refl _ _ | refine Below.alloc ?_ (by simp; try omega) _)
    have hsz : w.heap.size + 7 = W.heap.size := by rw [← hW]; simp
    have j0 : W.cell? ⟨w.heap.size + 1, 0, none⟩ = some (.string ⟨#[]⟩) := by rw [← hW]; clear hW; go_simp
    have j1 : W.cell? ⟨w.heap.size + 1, 1, none⟩ = some (.string m) := by rw [← hW]; clear hW; go_simp
    have j2 : W.cell? ⟨w.heap.size + 1, 2, none⟩ = some (.pointer (some ⟨w.heap.size + 1 + 1 + 1, 0, none⟩)) := by rw [← hW]; clear hW; go_simp
    have j3 : W.cell? ⟨w.heap.size + 1, 3, none⟩ = some (.bool false) := by rw [← hW]; clear hW; go_simp
    have j4 : W.cell? ⟨w.heap.size + 1, 4, none⟩ = some (.slice none 0 0) := by rw [← hW]; clear hW; go_simp
    have j5 : W.cell? ⟨w.heap.size + 1, 5, none⟩ = some (.slice none 0 0) := by rw [← hW]; clear hW; go_simp
    have p0 : W.cell? ⟨w.heap.size + 1 + 1, 0, none⟩ = some (.string ⟨#[]⟩) := by rw [← hW]; clear hW; go_simp
    have p1 : W.cell? ⟨w.heap.size + 1 + 1, 1, none⟩ = some (.pointer (some ⟨w.heap.size + 1 + 1 + 1 + 1, 0, none⟩)) := by rw [← hW]; clear hW; go_simp
    have p2 : W.cell? ⟨w.heap.size + 1 + 1, 2, none⟩ = some (.slice none 0 0) := by rw [← hW]; clear hW; go_simp
    have p3 : W.cell? ⟨w.heap.size + 1 + 1, 3, none⟩ = some (.bool false) := by rw [← hW]; clear hW; go_simp
    have x1 : W.cell? ⟨w.heap.size + 1 + 1 + 1, 0, none⟩ = some (.float .f64 t1) := by rw [← hW]; clear hW; go_simp
    have x2 : W.cell? ⟨w.heap.size + 1 + 1 + 1 + 1, 0, none⟩ = some (.float .f64 t1) := by rw [← hW]; clear hW; go_simp
    clear hW hm h1 h2 q0 q1 q2
    go_region_with (first | (go_at_call 10; go_must (refine (jb_thr _ _ _ _ _ _ _ _ t1 _ ?_ ?_).mono ?_; (focus ((try simp); omega)); (focus (go_simp)); rintro e w1 ⟨rfl, hb1⟩; have hz1 : W.heap.size ≤ w1.heap.size := hb1.size; have p0' := carry hb1 (v := .string ⟨#[]⟩) p0 (by simp; omega); have p1' := carry hb1 (v := .pointer (some ⟨w.heap.size + 1 + 1 + 1 + 1, 0, none⟩)) p1 (by simp; omega); have p2' := carry hb1 (v := .slice none 0 0) p2 (by simp; omega); have p3' := carry hb1 (v := .bool false) p3 (by simp; omega); have x2' := carry hb1 (v := .float .f64 t1) x2 (by simp; omega); clear j0 j1 j2 j3 j4 j5 p0 p1 p2 p3 x1 x2)) | (go_at_call 12; go_must (refine (pii_thr _ _ _ _ _ _ t1 _ ?_ ?_).mono ?_; (focus ((try simp); omega)); (focus (go_simp)); rintro e w2 ⟨rfl, hb2⟩)) | (go_at_call 9; go_must (refine (same_refl _ _).mono ?_; rintro e w3 ⟨rfl, rfl⟩)))
    all_goals (go_wp2; go_ret; exact ⟨rfl, fin bel hb1 (by assumption)⟩)

set_option maxHeartbeats 800000 in
theorem walk4_101 (m : ByteArray) (t1 : Nat) (t2 : Nat) (s1 : ByteArray) (b4 b5 : Bool) (s2 : ByteArray) (b6 : Bool) (w : World) (hm : m.size ≤ maxLen) (h1 : s1.size ≤ maxLen) (h2 : s2.size ≤ maxLen)
    (hne : (m.toList == [99, 111, 110, 116, 114, 97, 115, 116, 105, 118, 101]) = false)
    (q0 : (m.size : Int) ≤ 65536) (q1 : (s1.size : Int) ≤ 65536) (q2 : (s2.size : Int) ≤ 65536) :
    Calls Try.prog 4 #[.string m, .bool true, .float .f64 t1, .bool false, .float .f64 t2, .string s1, .bool true, .bool b4, .bool b5, .string s2, .bool b6] w
      fun e w' => e = .returned (.bool true) ∧ Below w.heap.size w w' := by
  go_enter Try.func4, Try.ntmps4
  go_wp2_with (go_at_call 11; refine (bytes11 _ _ _ _ _ _ _ _ _ _ _ _ hm h1 h2).mono ?_; rintro e w' ⟨⟨b, rfl⟩, hw⟩; rw [hw]; clear hw w')
  · go_ret; exact ⟨rfl, Below.refl _ _⟩
  · generalize hW : World.alloc _ _ = W
    have bel : Below w.heap.size w W := by
      rw [← hW]
      repeat (first | exact Below.refl _ _ | refine Below.alloc ?_ (by simp; try omega) _)
    have hsz : w.heap.size + 6 = W.heap.size := by rw [← hW]; simp
    have j0 : W.cell? ⟨w.heap.size + 1 + 1, 0, none⟩ = some (.string ⟨#[]⟩) := by rw [← hW]; clear hW; go_simp
    have j1 : W.cell? ⟨w.heap.size + 1 + 1, 1, none⟩ = some (.string m) := by rw [← hW]; clear hW; go_simp
    have j2 : W.cell? ⟨w.heap.size + 1 + 1, 2, none⟩ = some (.pointer (some ⟨w.heap.size + 1 + 1 + 1 + 1, 0, none⟩)) := by rw [← hW]; clear hW; go_simp
    have j3 : W.cell? ⟨w.heap.size + 1 + 1, 3, none⟩ = some (.bool false) := by rw [← hW]; clear hW; go_simp
    have j4 : W.cell? ⟨w.heap.size + 1 + 1, 4, none⟩ = some (.slice none 0 0) := by rw [← hW]; clear hW; go_simp
    have j5 : W.cell? ⟨w.heap.size + 1 + 1, 5, none⟩ = some (.slice none 0 0) := by rw [← hW]; clear hW; go_simp
    have p0 : W.cell? ⟨w.heap.size + 1 + 1 + 1, 0, none⟩ = some (.string ⟨#[]⟩) := by rw [← hW]; clear hW; go_simp
    have p1 : W.cell? ⟨w.heap.size + 1 + 1 + 1, 1, none⟩ = some (.pointer (some ⟨w.heap.size + 1 + 1 + 1 + 1 + 1, 0, none⟩)) := by rw [← hW]; clear hW; go_simp
    have p2 : W.cell? ⟨w.heap.size + 1 + 1 + 1, 2, none⟩ = some (.slice none 0 0) := by rw [← hW]; clear hW; go_simp
    have p3 : W.cell? ⟨w.heap.size + 1 + 1 + 1, 3, none⟩ = some (.bool false) := by rw [← hW]; clear hW; go_simp
    have x1 : W.cell? ⟨w.heap.size + 1 + 1 + 1 + 1, 0, none⟩ = some (.float .f64 t1) := by rw [← hW]; clear hW; go_simp
    have x2 : W.cell? ⟨w.heap.size + 1 + 1 + 1 + 1 + 1, 0, none⟩ = some (.float .f64 t1) := by rw [← hW]; clear hW; go_simp
    clear hW hm h1 h2 q0 q1 q2
    go_region_with (first | (go_at_call 10; go_must (refine (jb_thr _ _ _ _ _ _ _ _ t1 _ ?_ ?_).mono ?_; (focus ((try simp); omega)); (focus (go_simp)); rintro e w1 ⟨rfl, hb1⟩; have hz1 : W.heap.size ≤ w1.heap.size := hb1.size; have p0' := carry hb1 (v := .string ⟨#[]⟩) p0 (by simp; omega); have p1' := carry hb1 (v := .pointer (some ⟨w.heap.size + 1 + 1 + 1 + 1 + 1, 0, none⟩)) p1 (by simp; omega); have p2' := carry hb1 (v := .slice none 0 0) p2 (by simp; omega); have p3' := carry hb1 (v := .bool false) p3 (by simp; omega); have x2' := carry hb1 (v := .float .f64 t1) x2 (by simp; omega); clear j0 j1 j2 j3 j4 j5 p0 p1 p2 p3 x1 x2)) | (go_at_call 12; go_must (refine (pii_thr _ _ _ _ _ _ t1 _ ?_ ?_).mono ?_; (focus ((try simp); omega)); (focus (go_simp)); rintro e w2 ⟨rfl, hb2⟩)) | (go_at_call 9; go_must (refine (same_refl _ _).mono ?_; rintro e w3 ⟨rfl, rfl⟩)))
    all_goals (go_wp2; go_ret; exact ⟨rfl, fin bel hb1 (by assumption)⟩)

set_option maxHeartbeats 800000 in
theorem walk4_100 (m : ByteArray) (t1 : Nat) (t2 : Nat) (s1 : ByteArray) (b4 b5 : Bool) (s2 : ByteArray) (b6 : Bool) (w : World) (hm : m.size ≤ maxLen) (h1 : s1.size ≤ maxLen) (h2 : s2.size ≤ maxLen)
    (hne : (m.toList == [99, 111, 110, 116, 114, 97, 115, 116, 105, 118, 101]) = false)
    (q0 : (m.size : Int) ≤ 65536) (q1 : (s1.size : Int) ≤ 65536) (q2 : (s2.size : Int) ≤ 65536) :
    Calls Try.prog 4 #[.string m, .bool true, .float .f64 t1, .bool false, .float .f64 t2, .string s1, .bool false, .bool b4, .bool b5, .string s2, .bool b6] w
      fun e w' => e = .returned (.bool true) ∧ Below w.heap.size w w' := by
  go_enter Try.func4, Try.ntmps4
  go_wp2_with (go_at_call 11; refine (bytes11 _ _ _ _ _ _ _ _ _ _ _ _ hm h1 h2).mono ?_; rintro e w' ⟨⟨b, rfl⟩, hw⟩; rw [hw]; clear hw w')
  · go_ret; exact ⟨rfl, Below.refl _ _⟩
  · generalize hW : World.alloc _ _ = W
    have bel : Below w.heap.size w W := by
      rw [← hW]
      repeat (first | exact Below.refl _ _ | refine Below.alloc ?_ (by simp; try omega) _)
    have hsz : w.heap.size + 5 = W.heap.size := by rw [← hW]; simp
    have j0 : W.cell? ⟨w.heap.size + 1, 0, none⟩ = some (.string ⟨#[]⟩) := by rw [← hW]; clear hW; go_simp
    have j1 : W.cell? ⟨w.heap.size + 1, 1, none⟩ = some (.string m) := by rw [← hW]; clear hW; go_simp
    have j2 : W.cell? ⟨w.heap.size + 1, 2, none⟩ = some (.pointer (some ⟨w.heap.size + 1 + 1 + 1, 0, none⟩)) := by rw [← hW]; clear hW; go_simp
    have j3 : W.cell? ⟨w.heap.size + 1, 3, none⟩ = some (.bool false) := by rw [← hW]; clear hW; go_simp
    have j4 : W.cell? ⟨w.heap.size + 1, 4, none⟩ = some (.slice none 0 0) := by rw [← hW]; clear hW; go_simp
    have j5 : W.cell? ⟨w.heap.size + 1, 5, none⟩ = some (.slice none 0 0) := by rw [← hW]; clear hW; go_simp
    have p0 : W.cell? ⟨w.heap.size + 1 + 1, 0, none⟩ = some (.string ⟨#[]⟩) := by rw [← hW]; clear hW; go_simp
    have p1 : W.cell? ⟨w.heap.size + 1 + 1, 1, none⟩ = some (.pointer (some ⟨w.heap.size + 1 + 1 + 1 + 1, 0, none⟩)) := by rw [← hW]; clear hW; go_simp
    have p2 : W.cell? ⟨w.heap.size + 1 + 1, 2, none⟩ = some (.slice none 0 0) := by rw [← hW]; clear hW; go_simp
    have p3 : W.cell? ⟨w.heap.size + 1 + 1, 3, none⟩ = some (.bool false) := by rw [← hW]; clear hW; go_simp
    have x1 : W.cell? ⟨w.heap.size + 1 + 1 + 1, 0, none⟩ = some (.float .f64 t1) := by rw [← hW]; clear hW; go_simp
    have x2 : W.cell? ⟨w.heap.size + 1 + 1 + 1 + 1, 0, none⟩ = some (.float .f64 t1) := by rw [← hW]; clear hW; go_simp
    clear hW hm h1 h2 q0 q1 q2
    go_region_with (first | (go_at_call 10; go_must (refine (jb_thr _ _ _ _ _ _ _ _ t1 _ ?_ ?_).mono ?_; (focus ((try simp); omega)); (focus (go_simp)); rintro e w1 ⟨rfl, hb1⟩; have hz1 : W.heap.size ≤ w1.heap.size := hb1.size; have p0' := carry hb1 (v := .string ⟨#[]⟩) p0 (by simp; omega); have p1' := carry hb1 (v := .pointer (some ⟨w.heap.size + 1 + 1 + 1 + 1, 0, none⟩)) p1 (by simp; omega); have p2' := carry hb1 (v := .slice none 0 0) p2 (by simp; omega); have p3' := carry hb1 (v := .bool false) p3 (by simp; omega); have x2' := carry hb1 (v := .float .f64 t1) x2 (by simp; omega); clear j0 j1 j2 j3 j4 j5 p0 p1 p2 p3 x1 x2)) | (go_at_call 12; go_must (refine (pii_thr _ _ _ _ _ _ t1 _ ?_ ?_).mono ?_; (focus ((try simp); omega)); (focus (go_simp)); rintro e w2 ⟨rfl, hb2⟩)) | (go_at_call 9; go_must (refine (same_refl _ _).mono ?_; rintro e w3 ⟨rfl, rfl⟩)))
    all_goals (go_wp2; go_ret; exact ⟨rfl, fin bel hb1 (by assumption)⟩)

end Go.Proofs.Qxb6600293a
