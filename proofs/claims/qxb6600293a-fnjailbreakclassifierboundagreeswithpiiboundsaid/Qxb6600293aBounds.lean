/-
  The two Bound methods, and the law's own guard on lengths.
-/
import Derived.Test.Qxb6600293aFloat
namespace Go.Proofs.Qxb6600293a
open Go.RowKit

theorem bytes11 (m : ByteArray) (b1 : Bool) (t1 : Nat) (b2 : Bool) (t2 : Nat) (s1 : ByteArray) (b3 b4 b5 : Bool) (s2 : ByteArray) (b6 : Bool) (w : World) (hm : m.size ≤ maxLen) (h1 : s1.size ≤ maxLen) (h2 : s2.size ≤ maxLen) :
    Calls Try.prog 11 #[.string m, .bool b1, .float .f64 t1, .bool b2, .float .f64 t2, .string s1, .bool b3, .bool b4, .bool b5, .string s2, .bool b6] w
      fun e w' => (∃ b, e = .returned (.bool b)) ∧ w' = w := by
  unfold maxLen at hm h1 h2
  go_enter Try.func11, Try.ntmps11
  go_wp2
  all_goals (go_ret; exact ⟨⟨_, rfl⟩, rfl⟩)

theorem jb_thr (v0 v1 v3 v4 v5 g : Value) (b o t : Nat) (w : World) (hb : b < w.heap.size) (hc : w.cell? ⟨b, o, none⟩ = some (.float .f64 t)) :
    Calls Try.prog 10 #[.agg #[v0, v1, .pointer (some ⟨b, o, none⟩), v3, v4, v5], g] w
      fun e w' => e = .returned (.float .f64 t) ∧ Below w.heap.size w w' := by
  go_enter Try.func10, Try.ntmps10
  go_wp2
  go_ret
  exact ⟨rfl, (Below.refl _ _).alloc (Nat.le_refl _) _⟩

theorem jb_none (v0 v3 v4 v5 : Value) (m : ByteArray) (w : World) (hm : (m.toList == [99, 111, 110, 116, 114, 97, 115, 116, 105, 118, 101]) = false) :
    Calls Try.prog 10 #[.agg #[v0, .string m, .pointer none, v3, v4, v5], .pointer none] w
      fun e w' => e = .returned (.float .f64 0) ∧ Below w.heap.size w w' := by
  go_enter Try.func10, Try.ntmps10
  go_wp2
  all_goals (go_ret; exact ⟨rfl, ((Below.refl _ _).alloc (Nat.le_refl _) _).alloc (by simp) _⟩)

theorem jb_guard (v0 v3 v4 v5 : Value) (m : ByteArray) (b t : Nat) (w : World) (hm : (m.toList == [99, 111, 110, 116, 114, 97, 115, 116, 105, 118, 101]) = false)
    (hb : b < w.heap.size) (hc : w.cell? ⟨b, 2, none⟩ = some (.float .f64 t)) :
    Calls Try.prog 10 #[.agg #[v0, .string m, .pointer none, v3, v4, v5], .pointer (some ⟨b, 0, none⟩)] w
      fun e w' => e = .returned (.float .f64 t) ∧ Below w.heap.size w w' := by
  go_enter Try.func10, Try.ntmps10
  go_wp2
  all_goals (go_ret; exact ⟨rfl, ((Below.refl _ _).alloc (Nat.le_refl _) _).alloc (by simp) _⟩)

theorem pii_thr (v0 v2 v3 g : Value) (b o t : Nat) (w : World) (hb : b < w.heap.size) (hc : w.cell? ⟨b, o, none⟩ = some (.float .f64 t)) :
    Calls Try.prog 12 #[.agg #[v0, .pointer (some ⟨b, o, none⟩), v2, v3], g] w
      fun e w' => e = .returned (.float .f64 t) ∧ Below w.heap.size w w' := by
  go_enter Try.func12, Try.ntmps12
  go_wp2
  go_ret
  exact ⟨rfl, (Below.refl _ _).alloc (Nat.le_refl _) _⟩

theorem pii_none (v0 v2 v3 : Value) (w : World) :
    Calls Try.prog 12 #[.agg #[v0, .pointer none, v2, v3], .pointer none] w
      fun e w' => e = .returned (.float .f64 0) ∧ Below w.heap.size w w' := by
  go_enter Try.func12, Try.ntmps12
  go_wp2
  go_ret
  exact ⟨rfl, (Below.refl _ _).alloc (Nat.le_refl _) _⟩

theorem pii_model (v0 v2 v3 : Value) (b t : Nat) (w : World) (hb : b < w.heap.size) (hc : w.cell? ⟨b, 1, none⟩ = some (.float .f64 t)) :
    Calls Try.prog 12 #[.agg #[v0, .pointer none, v2, v3], .pointer (some ⟨b, 0, none⟩)] w
      fun e w' => e = .returned (.float .f64 t) ∧ Below w.heap.size w w' := by
  go_enter Try.func12, Try.ntmps12
  go_wp2
  go_ret
  exact ⟨rfl, (Below.refl _ _).alloc (Nat.le_refl _) _⟩
end Go.Proofs.Qxb6600293a
