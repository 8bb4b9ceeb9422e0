/-
  A slice of strings that came in: from its reading to 'Has'.
-/
import Derived.Test.Qxb6600293aEq
import Derived.OpenShut
namespace Go.Proofs.Qxb6600293a
open Go.RowKit
set_option linter.unusedVariables false

/-- What the walk is told of a slice of strings that came in: it is nil; or it leads to a row of 'cap' cells, the strings ss. -/
def IsStrs (w : World) (a : Option Addr) (len cap : Nat) (ss : List ByteArray) : Prop :=
  (a = none ∧ len = 0 ∧ cap = 0 ∧ ss = []) ∨
  ∃ x, a = some x ∧ len ≤ cap ∧ cap ≤ maxLen ∧ ss.length = cap ∧ (∀ i, i < ss.length → w.cell? (x.add i) = some (.string (ss.getD i ByteArray.empty))) ∧ ∀ s ∈ ss, s.size ≤ maxLen

theorem lt_of_cell {w : World} {b o : Nat} {v : Value} (h : w.cell? ⟨b, o, none⟩ = some v) : b < w.heap.size := by
  rcases Nat.lt_or_ge b w.heap.size with h1 | h1
  · exact h1
  · exfalso
    unfold World.cell? at h
    rw [Array.getElem?_eq_none h1] at h
    simp at h

theorem strs_at {w : World} {a : Addr} {ss : List ByteArray} (h : ∀ i, i < ss.length → w.cell? (a.add i) = some (.string (ss.getD i ByteArray.empty))) (hp : 0 < ss.length) :
    ∃ b off, a = ⟨b, off, none⟩ ∧ ∀ j, j < ss.length → w.cell? ⟨b, off + j, none⟩ = some (.string (ss.getD j ByteArray.empty)) := by
  obtain ⟨b, off, spot⟩ := a
  have hspot : spot = none := by simpa [Addr.add] using World.cell?_spot (h 0 hp)
  subst hspot
  exact ⟨b, off, rfl, fun j hj => by rw [← Go.WideShapes.add_plain]; exact h j hj⟩

theorem has_of_strs {w : World} {a : Option Addr} {len cap : Nat} {ss : List ByteArray} (h : IsStrs w a len cap ss) :
    Has w a len (ss.take len) ∧ (a = none → len = 0 ∧ cap = 0) ∧ len ≤ maxLen := by
  rcases h with ⟨rfl, rfl, rfl, rfl⟩ | ⟨x, rfl, hl, hm, hz, hcell, hs⟩
  · exact ⟨⟨rfl, fun i hi => absurd hi (Nat.not_lt_zero _)⟩, fun _ => ⟨rfl, rfl⟩, Nat.zero_le _⟩
  · refine ⟨⟨by rw [List.length_take]; omega, fun i hi => ?_⟩, fun h => by simp at h, by omega⟩
    obtain ⟨b, off, rfl, hc⟩ := strs_at hcell (by omega)
    have h1 := hc i (by omega)
    have h2 : (ss.take len).getD i ByteArray.empty = ss.getD i ByteArray.empty := by
      rw [List.getD_eq_getElem?_getD, List.getElem?_take, if_pos hi, List.getD_eq_getElem?_getD]
    have h3 : i < ss.length := by omega
    refine ⟨b, off, rfl, lt_of_cell h1, by rw [h2]; exact h1, ?_⟩
    rw [h2, List.getD_eq_getElem?_getD, List.getElem?_eq_getElem h3]
    exact hs _ (List.getElem_mem h3)
end Go.Proofs.Qxb6600293a
