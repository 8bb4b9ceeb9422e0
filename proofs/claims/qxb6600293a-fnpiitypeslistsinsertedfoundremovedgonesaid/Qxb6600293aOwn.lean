/-
  A slice of strings that the call itself has made and appends to; the plain lists behind it.
-/
import Derived.Test.Qxb6600293aClone
import Derived.Test.Qxb6600293aArgs
import Derived.Test.Qxb6600293aScan
namespace Go.Proofs.Qxb6600293a
open Go.RowKit
set_option linter.unusedVariables false

/-- The slice value v owns the strings L, in blocks from B on. -/
def Own (B : Nat) (w : World) (v : Value) (L : List ByteArray) : Prop := w.ownsRow B 9 1 v L.length (L.map Value.string)

theorem Own.block {B : Nat} {w : World} {v : Value} {L : List ByteArray} (h : Own B w v L) : ∀ k, v.ownBlock = some k → B ≤ k := by
  intro k hk
  rcases h.2 with ⟨rfl, _⟩ | ⟨g, cap, cur, rfl, hg, _⟩
  · simp [Value.ownBlock] at hk
  · simp [Value.ownBlock] at hk; omega

/-- What an append of one string leaves. -/
theorem own_step {B : Nat} {w1 wr w' : World} {v v' : Value} {L : List ByteArray} {s : ByteArray} {o : Obj} (hbel : Below B w1 wr) (hB : B ≤ wr.heap.size) (hown : Own B wr v L)
    (h1 : w'.ownsRow B 9 1 v' (L.length + 1) (L.map Value.string ++ [.string s])) (hg : (wr.alloc o).grownBy w' v.ownBlock) :
    Own B w' v' (L ++ [s]) ∧ Below B w1 w' := by
  refine ⟨?_, (hbel.alloc hB o).grown hg (by simp; omega) hown.block⟩
  unfold Own
  rw [List.length_append, List.map_append]
  exact h1

theorem Own.row {B : Nat} {w : World} {v : Value} {L : List ByteArray} (h : Own B w v L) : ∃ a cap, v = .slice a L.length cap ∧ Row w a L.length L := by
  rcases h.2 with ⟨rfl, h0⟩ | ⟨g, cap, cur, rfl, hg, hh, hc, hm, hs, ht⟩
  · rw [h0]
    exact ⟨none, 0, rfl, h0, fun i hi => absurd hi (Nat.not_lt_zero _)⟩
  · refine ⟨_, cap, rfl, rfl, fun i hi => ?_⟩
    have hc' := World.ownsRow.cellAt h i (by omega)
    refine ⟨g, 0, rfl, ?_, ?_⟩
    · rcases Nat.lt_or_ge g w.heap.size with h1 | h1
      · exact h1
      · rw [Array.getElem?_eq_none h1] at hh; simp at hh
    · rw [Nat.zero_add, hc', List.getElem?_map, List.getElem?_eq_getElem hi, List.getD_eq_getElem?_getD, List.getElem?_eq_getElem hi]
      rfl

theorem Own.below {B : Nat} {w w' : World} {v : Value} {L : List ByteArray} (h : Own B w v L) (hb : Below w.heap.size w w') : Own B w' v L := by
  refine ⟨h.1, ?_⟩
  rcases h.2 with h1 | ⟨g, cap, cur, hv, hg, hh, hr⟩
  · exact .inl h1
  · refine .inr ⟨g, cap, cur, hv, hg, ?_, hr⟩
    rw [hb.block g ?_]
    · exact hh
    · rcases Nat.lt_or_ge g w.heap.size with h1 | h1
      · exact h1
      · rw [Array.getElem?_eq_none h1] at hh; simp at hh

theorem new_cell (w : World) (s : ByteArray) : ∀ (j : Nat) (u : Value), [Value.string s][j]? = some u → (w.alloc (.cells #[.string s] 9)).cell? ((⟨w.heap.size, 0, none⟩ : Addr).add j) = some u := by
  intro j u hj
  match j, hj with
  | 0, hj => simp at hj; subst hj; simp [Addr.add]
  | j + 1, hj => simp at hj
theorem one_cells (s : ByteArray) : ∀ u ∈ [Value.string s], u.oneCell' = true := by intro u hu; simp at hu; subst hu; rfl
theorem fits3 {l : Nat} (h : l ≤ 65537) : l + 1 ≤ maxLen := by unfold maxLen; omega
theorem fits4 {l : Nat} (h : l ≤ 65537) : (l + 1) * 16 ≤ 140737488355328 := by omega
theorem fits5 {B : Nat} {w : World} (o : Obj) (h : B ≤ w.heap.size) : B ≤ (w.alloc o).heap.size := by simp; omega

/-- The strings other than e among the first j. -/
def kept (ss : List ByteArray) (e : ByteArray) (j : Nat) : List ByteArray := (ss.take j).filter fun s => !same s e

theorem kept_le (ss : List ByteArray) (e : ByteArray) (j : Nat) : (kept ss e j).length ≤ j :=
  Nat.le_trans (List.length_filter_le _ _) (List.length_take_le _ _)

theorem kept_succ {ss : List ByteArray} {e : ByteArray} {j : Nat} (h : j < ss.length) :
    kept ss e (j + 1) = kept ss e j ++ (if same (ss.getD j ByteArray.empty) e then [] else [ss.getD j ByteArray.empty]) := by
  have e1 : ss.take (j + 1) = ss.take j ++ [ss.getD j ByteArray.empty] := by
    rw [List.take_succ_eq_append_getElem h, List.getD_eq_getElem?_getD, List.getElem?_eq_getElem h]; rfl
  unfold kept
  rw [e1, List.filter_append]
  generalize ss.getD j ByteArray.empty = x
  cases hx : same x e <;> simp [hx]

theorem kept_none (ss : List ByteArray) (e : ByteArray) (j : Nat) : names (kept ss e j) e = false := by
  unfold names kept
  rw [List.any_eq_false]
  intro x hx
  have := (List.mem_filter.1 hx).2
  simpa using this

theorem same_self (s : ByteArray) : same s s = true := by unfold same; simp

theorem kept_last {ss : List ByteArray} {e : ByteArray} {j : Nat} (h : j < ss.length) (hs : same (ss.getD j ByteArray.empty) e = false) : names (kept ss e (j + 1)) (ss.getD j ByteArray.empty) = true := by
  rw [kept_succ h, hs]
  unfold names
  simp [same_self]

theorem names_append_new (L : List ByteArray) (e : ByteArray) : names (L ++ [e]) e = true := by
  unfold names
  simp [same_self]

theorem names_append_old {L : List ByteArray} {e : ByteArray} (s : ByteArray) (h : names L e = true) : names (L ++ [s]) e = true := by
  unfold names at h ⊢
  rw [List.any_append, h]
  rfl
end Go.Proofs.Qxb6600293a
