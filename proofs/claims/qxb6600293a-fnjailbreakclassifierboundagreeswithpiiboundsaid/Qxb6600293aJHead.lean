/-
  Small laws for the walk of FnJailbreakClassifierBoundAgreesWithPIIBound.
-/
import Derived.Test.Qxb6600293aBounds
namespace Go.Proofs.Qxb6600293a
open Go.RowKit

theorem run_store_float (P : Program) (w : World) (a : Addr) (m : Mode) (k : FloatKind) (n : Nat) : (store a (.float k n) m).run P w = stored P w a (.float k n) m := run_store P w a _ m rfl

theorem carry {W w1 : World} (hb : Below W.heap.size W w1) {b o : Nat} {v : Value} (h : W.cell? ⟨b, o, none⟩ = some v) (hlt : b < W.heap.size) : w1.cell? ⟨b, o, none⟩ = some v :=
  (hb.cell (p := ⟨b, o, none⟩) hlt).trans h

theorem fin {w W w1 w2 : World} (bel : Below w.heap.size w W) (hb1 : Below W.drew.heap.size W.drew w1) (hb2 : Below w1.heap.size w1 w2) : Below w.heap.size w w2 := by
  have h1 : W.heap.size ≤ w1.heap.size := hb1.size
  have h2 := bel.size
  exact (bel.drew.trans (hb1.mono h2)).trans (hb2.mono (by omega))

end Go.Proofs.Qxb6600293a
