/-
  sameFloatCfgB1 at one and the same float: it answers true, whatever the float.
-/
import Derived.Test.Qxb6600293aChecked
import Derived.WalkKit
import Derived.WalkSpells
import Derived.WalkLawsBesides
import Derived.Laws.FloatArith
import Derived.KernelRfl
namespace Go.Proofs.Qxb6600293a
open Go.RowKit

theorem order_self (d : Ieee.Datum) : d.order d = none ∨ d.order d = some .eq := by
  cases d with
  | nan => left; rfl
  | infinity s => right; simp [Ieee.Datum.order]
  | number s m i => right; simp [Ieee.Datum.order]

theorem fo_self (a : Nat) : FloatKind.f64.format.order a a = none ∨ FloatKind.f64.format.order a a = some .eq := order_self _

theorem read_zero : FloatKind.f64.format.read 0 = .number false 0 (-1074) := by decide +kernel
theorem read_one : FloatKind.f64.format.read 4607182418800017408 = .number false 4503599627370496 (-52) := by decide +kernel

theorem zero_mag (d : Ieee.Datum) (j : Int) (h : d.order (.number false 0 j) = some .eq) : ∃ s i, d = .number s 0 i := by
  cases d with
  | nan => simp [Ieee.Datum.order] at h
  | infinity s => cases s <;> simp [Ieee.Datum.order] at h
  | number s m i =>
    refine ⟨s, i, ?_⟩
    simp [Ieee.Datum.order, Ieee.signed] at h
    have : m = 0 := by
      cases s <;> simp at h <;> omega
    rw [this]

theorem quo_zero (a : Nat) (h : FloatKind.f64.format.order a 0 = some .eq) : ∃ r, floatBits .quo .f64 4607182418800017408 a = some r := by
  have h1 : (FloatKind.f64.format.read a).order (.number false 0 (-1074)) = some .eq := by rw [← read_zero]; exact h
  obtain ⟨s, i, hd⟩ := zero_mag _ _ h1
  refine ⟨FloatKind.f64.format.write (.infinity (false ^^ s)), ?_⟩
  show (((FloatKind.f64.format.read 4607182418800017408).quotient (FloatKind.f64.format.fractionBits + 2) (FloatKind.f64.format.read a)).map FloatKind.f64.format.write) = _
  rw [read_one, hd]
  simp [Ieee.Datum.quotient]

theorem same_refl (a : Nat) (w : World) :
    Calls Try.prog 9 #[.float .f64 a, .float .f64 a] w fun e w' => e = .returned (.bool true) ∧ w' = w := by
  rcases fo_self a with h | h
  · have h1 : (FloatKind.f64.format.order a a != some .eq) = true := by rw [h]; rfl
    clear h
    go_enter Try.func9, Try.ntmps9
    go_wp2
    go_ret
    exact ⟨rfl, rfl⟩
  · have h1 : (FloatKind.f64.format.order a a != some .eq) = false := by rw [h]; rfl
    clear h
    by_cases hz : FloatKind.f64.format.order a 0 = some .eq
    · have h2 : (FloatKind.f64.format.order a 0 == some .eq) = true := by rw [hz]; rfl
      obtain ⟨r, hr⟩ := quo_zero a hz
      have hq := fun w => run_float_arith (P := Try.prog) w .quo 22 .f64 4607182418800017408 a r hr
      clear hz hr
      go_enter Try.func9, Try.ntmps9
      go_wp2
      go_ret
      exact ⟨rfl, rfl⟩
    · have h2 : (FloatKind.f64.format.order a 0 == some .eq) = false := by simpa using hz
      clear hz
      go_enter Try.func9, Try.ntmps9
      go_wp2
      go_ret
      exact ⟨rfl, rfl⟩
end Go.Proofs.Qxb6600293a
