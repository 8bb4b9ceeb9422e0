/-
  cloneStrsCfgB1.
-/
import Derived.Test.Qxb6600293aEq
namespace Go.Proofs.Qxb6600293a
open Go.RowKit
set_option linter.unusedVariables false

theorem info9 : (Try.prog.info? 9).map (fun i => (i.zero, i.size, i.bytes)) = some (some (.string ByteArray.empty), 1, 16) := by kernel_rfl

theorem fill_step {c : Array Value} {k : Nat} {ss : List ByteArray} {s : ByteArray} (hk : k < c.size) (hs : s = ss.getD k ByteArray.empty)
    (hall : ∀ j, j < k → c[j]? = some (.string (ss.getD j ByteArray.empty))) :
    ∀ j, j < k + 1 → (c.setIfInBounds k (.string s))[j]? = some (.string (ss.getD j ByteArray.empty)) := by
  intro j hj
  by_cases e : k = j
  · subst e; rw [hs]; simp [hk]
  · rw [Array.getElem?_setIfInBounds_ne e]; exact hall j (by omega)

theorem has_new {w w0 : World} {a : Option Addr} {n : Nat} {ss : List ByteArray} {c : Array Value} (h : Has w a n ss) (hs : c.size = n) (hall : ∀ j, j < n → c[j]? = some (.string (ss.getD j ByteArray.empty))) :
    Has (w0.alloc (.cells c 9)) (some ⟨w0.heap.size, 0, none⟩) n ss := by
  refine ⟨h.1, fun i hi => ⟨_, _, rfl, by simp, ?_, ?_⟩⟩
  · have := hall i hi
    simp [this]
  · obtain ⟨_, _, _, _, _, hm⟩ := h.2 i hi
    exact hm

theorem clone15_nil (w : World) : Calls Try.prog 15 #[.slice none 0 0] w fun e w' => e = .returned (.slice none 0 0) ∧ w' = w := by
  have hnil := fun w => Lib.run_eql_slice_nil (P := Try.prog) w 24 9 none 0 0 0 0 Try.underlying24
  go_enter Try.func15, Try.ntmps15
  go_wp2
  go_ret
  exact ⟨rfl, rfl⟩

set_option maxHeartbeats 400000 in
theorem clone15 (x : Addr) (n cap : Nat) (ss : List ByteArray) (w : World) (hn : (n : Int) ≤ 65536) (h : Has w (some x) n ss) :
    Calls Try.prog 15 #[.slice (some x) n cap] w fun e w' => e = .returned (.slice (some ⟨w.heap.size, 0, none⟩) n n) ∧ Has w' (some ⟨w.heap.size, 0, none⟩) n ss ∧ Below w.heap.size w w' := by
  have hnil := fun w => Lib.run_eql_slice_nil (P := Try.prog) w 24 9 (some x) n cap 0 0 Try.underlying24
  obtain ⟨i0, hi, hz0, hz1, hz2⟩ := info_parts info9
  have hmk := fun w => run_make (P := Try.prog) w 24 9 i0 (.string ByteArray.empty) Try.underlying24 hi hz0 .i64 .i64 n n (by omega) (by omega) (by rw [hz2]; omega) (by omega)
  rw [hz1] at hmk
  have HH : Hid (Has w (some x) n ss) := h
  clear h hi hz0 hz1 hz2
  go_enter Try.func15, Try.ntmps15
  go_wp2
  go_loopw [4] (fun i wr => ∃ (k : Nat) (c : Array Value), k ≤ n ∧ i = .int .i64 k ∧ wr = w.alloc (.cells c 9) ∧ c.size = n ∧ ∀ j, j < k → c[j]? = some (.string (ss.getD j ByteArray.empty))) (fun i _ => n - (intOf i).toNat)
  case atStart => exact ⟨0, _, Nat.zero_le _, rfl, rfl, by simp [size_madeCells], fun j h => absurd h (Nat.not_lt_zero _)⟩
  case round =>
    obtain ⟨k, c, hk, rfl, rfl, hcs, hall⟩ := hrel
    have HA : Hid (∀ j, j < k → c[j]? = some (.string (ss.getD j ByteArray.empty))) := hall
    clear hall hmk hnil
    by_cases hlt : k < n
    · obtain ⟨b, off, hx, hbw, hc, _⟩ := HH.out.2 k hlt
      obtain rfl : x = ⟨b, off, none⟩ := Option.some.inj hx
      clear hx
      obtain ⟨s, hs⟩ : ∃ s, s = ss.getD k ByteArray.empty := ⟨_, rfl⟩
      rw [← hs] at hc
      have HS : Hid (s = ss.getD k ByteArray.empty) := hs
      clear hs
      go_wp2
      go_roundw
      case rel => exact ⟨k + 1, _, by omega, by go_num, rfl, by simp [hcs], fill_step (by omega) HS.out HA.out⟩
      case measure => simp [intOf]; omega
    · go_wp2
      go_ret
      exact ⟨rfl, has_new HH.out hcs (fun j hj => HA.out j (by omega)), (Below.refl _ _).alloc (Nat.le_refl _) _⟩

/-- The call has returned a slice that holds the strings ss. -/
def Gives (ss : List ByteArray) (n : Nat) (e : Ending) (w' : World) : Prop := ∃ a cap, e = .returned (.slice a n cap) ∧ Has w' a n ss

theorem clone15_any (a : Option Addr) (n cap : Nat) (ss : List ByteArray) (w : World) (hn : (n : Int) ≤ 65536) (h : Has w a n ss) (h0 : a = none → n = 0 ∧ cap = 0) :
    Calls Try.prog 15 #[.slice a n cap] w fun e w' => Gives ss n e w' ∧ Below w.heap.size w w' := by
  cases a with
  | none =>
    obtain ⟨rfl, rfl⟩ := h0 rfl
    refine (clone15_nil w).mono ?_
    rintro e w' ⟨rfl, rfl⟩
    exact ⟨⟨_, _, rfl, h⟩, Below.refl _ _⟩
  | some x =>
    refine (clone15 x n cap ss w hn h).mono ?_
    rintro e w' ⟨rfl, h1, h2⟩
    exact ⟨⟨_, _, rfl, h1⟩, h2⟩
end Go.Proofs.Qxb6600293a
