/-
  eqStrCfgB1, Lists, the two byte counters, over a slice of strings that can be read.
-/
import Derived.Test.Qxb6600293aChecked
import Derived.WalkKit
import Derived.WalkSpells
import Derived.WalkLawsBesides
import Derived.Deep.QuietTactic
import Derived.BigQuiet
import Derived.KernelRfl
namespace Go.Proofs.Qxb6600293a
open Go.RowKit
set_option linter.unusedVariables false

/-- The first n elements of the slice at 'a' are the strings ss. -/
def Has (w : World) (a : Option Addr) (n : Nat) (ss : List ByteArray) : Prop :=
  ss.length = n ∧ ∀ i, i < n → ∃ b off, a = some ⟨b, off, none⟩ ∧ b < w.heap.size ∧ w.cell? ⟨b, off + i, none⟩ = some (.string (ss.getD i ByteArray.empty)) ∧ (ss.getD i ByteArray.empty).size ≤ maxLen

/-- The same without the strings' sizes. -/
def Row (w : World) (a : Option Addr) (n : Nat) (ss : List ByteArray) : Prop :=
  ss.length = n ∧ ∀ i, i < n → ∃ b off, a = some ⟨b, off, none⟩ ∧ b < w.heap.size ∧ w.cell? ⟨b, off + i, none⟩ = some (.string (ss.getD i ByteArray.empty))

theorem Has.row {w : World} {a : Option Addr} {n : Nat} {ss : List ByteArray} (h : Has w a n ss) : Row w a n ss := by
  refine ⟨h.1, fun i hi => ?_⟩
  obtain ⟨b, off, e, hlt, hc, _⟩ := h.2 i hi
  exact ⟨b, off, e, hlt, hc⟩

theorem Row.below {w w' : World} {a : Option Addr} {n : Nat} {ss : List ByteArray} (h : Row w a n ss) (hb : Below w.heap.size w w') : Row w' a n ss := by
  refine ⟨h.1, fun i hi => ?_⟩
  obtain ⟨b, off, e, hlt, hc⟩ := h.2 i hi
  exact ⟨b, off, e, Nat.lt_of_lt_of_le hlt hb.size, (hb.cell (p := ⟨b, off + i, none⟩) hlt).trans hc⟩

theorem Has.below {w w' : World} {a : Option Addr} {n : Nat} {ss : List ByteArray} (h : Has w a n ss) (hb : Below w.heap.size w w') : Has w' a n ss := by
  refine ⟨h.1, fun i hi => ?_⟩
  obtain ⟨b, off, e, hlt, hc, hm⟩ := h.2 i hi
  exact ⟨b, off, e, Nat.lt_of_lt_of_le hlt hb.size, (hb.cell (p := ⟨b, off + i, none⟩) hlt).trans hc, hm⟩

/-- Two strings, byte for byte. -/
def same (a b : ByteArray) : Bool := a.toList == b.toList

theorem same_true {a b : ByteArray} (hs : a.size = b.size) (h : ∀ j (h1 : j < a.size) (h2 : j < b.size), a[j] = b[j]) : same a b = true := by
  unfold same
  rw [beq_iff_eq, ByteArray.toList_eq, ByteArray.toList_eq]
  apply List.ext_getElem
  · simpa using hs
  · intro i h1 h2
    exact h i (by simpa using h1) (by simpa using h2)

theorem same_size {a b : ByteArray} (hs : a.size ≠ b.size) : same a b = false := by
  unfold same
  rw [beq_eq_false_iff_ne, ByteArray.toList_eq, ByteArray.toList_eq]
  intro h
  have := congrArg List.length h
  apply hs
  simpa using this

theorem same_byte {a b : ByteArray} {j : Nat} (h1 : j < a.size) (h2 : j < b.size) (h : a[j] ≠ b[j]) : same a b = false := by
  unfold same
  rw [beq_eq_false_iff_ne, ByteArray.toList_eq, ByteArray.toList_eq]
  intro e
  apply h
  have h3 : a.data.toList[j]'(by simpa using h1) = b.data.toList[j]'(by simpa using h2) := by simp only [e]
  exact h3

theorem u8_eq {x y : UInt8} (h : ((x.toNat : Int) != (y.toNat : Int)) = false) : x = y := by
  have : x.toNat = y.toNat := by
    have h' : (x.toNat : Int) = (y.toNat : Int) := by simpa using h
    omega
  exact UInt8.toNat_inj.1 this
theorem u8_ne {x y : UInt8} (h : ((x.toNat : Int) != (y.toNat : Int)) = true) : x ≠ y := by
  rintro rfl
  simp at h

theorem ret_bool {a b : Bool} (h : a = b) : Ending.returned (.bool a) = .returned (.bool b) := by rw [h]

set_option maxHeartbeats 400000 in
theorem eq16 (a b : ByteArray) (w : World) (ha : a.size ≤ maxLen) (hb : b.size ≤ maxLen) :
    Calls Try.prog 16 #[.string a, .string b] w fun e w' => e = .returned (.bool (same a b)) ∧ Below w.heap.size w w' := by
  unfold maxLen at ha hb
  by_cases hs : a.size = b.size
  · have hsb : ((a.size : Int) != (b.size : Int)) = false := by simp [hs]
    have HS : Hid (a.size = b.size) := hs
    clear hs
    go_enter Try.func16, Try.ntmps16
    go_wp2
    go_loopw [5] (fun i wr => ∃ k : Nat, k ≤ a.size ∧ i = .int .i64 k ∧ (∀ j (h1 : j < a.size) (h2 : j < b.size), j < k → a[j] = b[j]) ∧ Below w.heap.size w wr) (fun i _ => a.size - (intOf i).toNat)
    case atStart => exact ⟨0, Nat.zero_le _, rfl, fun j _ _ h => absurd h (Nat.not_lt_zero _), Below.refl _ _⟩
    case round =>
      obtain ⟨k, hk, rfl, hall, hbel⟩ := hrel
      have HA : Hid (∀ j (h1 : j < a.size) (h2 : j < b.size), j < k → a[j] = b[j]) := hall
      clear hall
      by_cases hlt : k < a.size
      · have hlb : k < b.size := by have := HS.out; omega
        go_wp2
        go_quiet (fail)
        go_wp2
        · go_ret
          exact ⟨ret_bool (same_byte hlt hlb (u8_ne ‹_›)).symm, below_drewN hbel _⟩
        · go_roundw
          case rel => exact ⟨k + 1, by omega, by go_num, fun j h1 h2 h3 => (by rcases Nat.lt_succ_iff_lt_or_eq.1 h3 with h | rfl; exact HA.out j h1 h2 h; exact u8_eq ‹_›), below_drewN hbel _⟩
          case measure => simp [intOf]; omega
      · go_wp2
        go_ret
        exact ⟨ret_bool (same_true HS.out (fun j h1 h2 => HA.out j h1 h2 (by omega))).symm, hbel⟩
  · have hsb : ((a.size : Int) != (b.size : Int)) = true := by simp; omega
    have HS : Hid (¬ a.size = b.size) := hs
    clear hs
    go_enter Try.func16, Try.ntmps16
    go_wp2
    go_ret
    exact ⟨ret_bool (same_size HS.out).symm, Below.refl _ _⟩

/-- Does the list name e? -/
def names (ss : List ByteArray) (e : ByteArray) : Bool := ss.any fun s => same s e

theorem names_snoc (ss : List ByteArray) (k : Nat) (h : k < ss.length) (e : ByteArray) : names (ss.take (k + 1)) e = (names (ss.take k) e || same (ss.getD k ByteArray.empty) e) := by
  have e1 : ss.take (k + 1) = ss.take k ++ [ss.getD k ByteArray.empty] := by
    rw [List.take_succ_eq_append_getElem h, List.getD_eq_getElem?_getD, List.getElem?_eq_getElem h]; rfl
  unfold names
  rw [e1, List.any_append]
  simp

theorem names_take {ss : List ByteArray} {k : Nat} {e : ByteArray} (h : names (ss.take k) e = true) : names ss e = true := by
  unfold names at h ⊢
  rw [List.any_eq_true] at h ⊢
  obtain ⟨x, hx, hp⟩ := h
  exact ⟨x, List.mem_of_mem_take hx, hp⟩

set_option maxHeartbeats 400000 in
theorem lists17 (a : Option Addr) (n cap : Nat) (ss : List ByteArray) (e : ByteArray) (w : World) (hn : n ≤ maxLen) (h : Row w a n ss) :
    Calls Try.prog 17 #[.slice a n cap, .string e] w fun e' w' => e' = .returned (.bool (names ss e)) ∧ w' = w := by
  unfold maxLen at hn
  have HH : Hid (Row w a n ss) := h
  clear h
  go_enter Try.func17, Try.ntmps17
  go_wp2
  go_loop [9] (fun i => ∃ k : Nat, k ≤ n ∧ i = .int .i64 k ∧ names (ss.take k) e = false) (fun i => n - (intOf i).toNat)
  case atStart => exact ⟨0, Nat.zero_le _, rfl, rfl⟩
  case round =>
    obtain ⟨k, hk, rfl, hno⟩ := hrel
    have HN : Hid (names (ss.take k) e = false) := hno
    clear hno
    by_cases hlt : k < n
    · obtain ⟨b, off, rfl, hbw, hc⟩ := HH.out.2 k hlt
      obtain ⟨s, hs⟩ : ∃ s, s = ss.getD k ByteArray.empty := ⟨_, rfl⟩
      rw [← hs] at hc
      have HS : Hid (s = ss.getD k ByteArray.empty) := hs
      clear hs
      have hsn := names_snoc ss k (by rw [HH.out.1]; exact hlt) e
      rw [HN.out, ← HS.out, Bool.false_or] at hsn
      have HSN : Hid (names (ss.take (k + 1)) e = same s e) := hsn
      clear hsn
      go_wp2
      · go_ret
        exact ⟨ret_bool (names_take (HSN.out.trans ‹_›)).symm, rfl⟩
      · go_round
        case rel => exact ⟨k + 1, by omega, by go_num, HSN.out.trans ‹_›⟩
        case measure => simp [intOf]; omega
    · go_wp2
      go_ret
      exact ⟨ret_bool (by have h2 := HN.out; rw [List.take_of_length_le (by have := HH.out.1; omega)] at h2; exact h2.symm), rfl⟩

/-- The call has returned a bool. -/
def SomeBool (e : Ending) : Prop := ∃ b : Bool, e = .returned (.bool b)
theorem someBool (b : Bool) : SomeBool (.returned (.bool b)) := ⟨b, rfl⟩

set_option maxHeartbeats 400000 in
theorem bytes13 (a : Option Addr) (n cap : Nat) (ss : List ByteArray) (e : ByteArray) (w : World) (hn : n ≤ maxLen) (he : e.size ≤ maxLen) (h : Has w a n ss) :
    Calls Try.prog 13 #[.slice a n cap, .string e] w fun e' w' => SomeBool e' ∧ w' = w := by
  unfold maxLen at hn he
  have HH : Hid (Has w a n ss) := h
  clear h
  by_cases hbig : 1048576 < (n : Int)
  · go_enter Try.func13, Try.ntmps13
    go_wp2
    go_ret
    exact ⟨someBool _, rfl⟩
  · go_enter Try.func13, Try.ntmps13
    go_wp2
    go_loop [5, 6] (fun z i => ∃ (k : Nat) (y : Int), k ≤ n ∧ i = .int .i64 k ∧ z = .int .i64 y ∧ 0 ≤ y ∧ y ≤ 1048576) (fun _ i => n - (intOf i).toNat)
    case atStart => exact ⟨0, n, Nat.zero_le _, rfl, rfl, by omega, by omega⟩
    case round =>
      obtain ⟨k, y, hk, rfl, rfl, hy0, hy1⟩ := hrel
      by_cases hlt : k < n
      · obtain ⟨b, off, rfl, hbw, hc, _⟩ := HH.out.2 k hlt
        obtain ⟨s, hs⟩ : ∃ s, s = ss.getD k ByteArray.empty := ⟨_, rfl⟩
        rw [← hs] at hc
        clear hs
        go_wp2
        · go_ret; exact ⟨someBool _, rfl⟩
        · go_ret; exact ⟨someBool _, rfl⟩
        · go_round
          case rel => exact ⟨k + 1, y + s.size, by omega, by go_num, rfl, by omega, by omega⟩
          case measure => simp [intOf]; omega
      · go_wp2
        all_goals (go_ret; exact ⟨someBool _, rfl⟩)

set_option maxHeartbeats 400000 in
theorem bytes19 (a : Option Addr) (n cap : Nat) (ss : List ByteArray) (e : ByteArray) (m : Int) (w : World) (hn : n ≤ maxLen) (he : e.size ≤ maxLen) (h : Has w a n ss) :
    Calls Try.prog 19 #[.slice a n cap, .string e, .int .i64 m] w fun e' w' => SomeBool e' ∧ w' = w := by
  unfold maxLen at hn he
  have HH : Hid (Has w a n ss) := h
  clear h
  by_cases hbig : 1048576 < (n : Int)
  · go_enter Try.func19, Try.ntmps19
    go_wp2
    go_ret
    exact ⟨someBool _, rfl⟩
  · go_enter Try.func19, Try.ntmps19
    go_wp2
    go_loop [7, 8] (fun z i => ∃ (k : Nat) (y : Int), k ≤ n ∧ i = .int .i64 k ∧ z = .int .i64 y ∧ 0 ≤ y ∧ y ≤ 1048576) (fun _ i => n - (intOf i).toNat)
    case atStart => exact ⟨0, n, Nat.zero_le _, rfl, rfl, by omega, by omega⟩
    case round =>
      obtain ⟨k, y, hk, rfl, rfl, hy0, hy1⟩ := hrel
      by_cases hlt : k < n
      · obtain ⟨b, off, rfl, hbw, hc, _⟩ := HH.out.2 k hlt
        obtain ⟨s, hs⟩ : ∃ s, s = ss.getD k ByteArray.empty := ⟨_, rfl⟩
        rw [← hs] at hc
        clear hs
        go_wp2
        · go_ret; exact ⟨someBool _, rfl⟩
        · go_ret; exact ⟨someBool _, rfl⟩
        · go_round
          case rel => exact ⟨k + 1, y + s.size, by omega, by go_num, rfl, by omega, by omega⟩
          case measure => simp [intOf]; omega
      · go_wp2
        all_goals (go_ret; exact ⟨someBool _, rfl⟩)

set_option maxHeartbeats 400000 in
theorem bytes14 (a : Option Addr) (n cap : Nat) (ss : List ByteArray) (w : World) (hn : (n : Int) ≤ 65536) (h : Has w a n ss) :
    Calls Try.prog 14 #[.slice a n cap] w fun e' w' => (∃ z : Int, e' = .returned (.int .i64 z) ∧ 0 ≤ z ∧ z ≤ 2097152) ∧ w' = w := by
  have HH : Hid (Has w a n ss) := h
  clear h
  go_enter Try.func14, Try.ntmps14
  go_wp2
  go_loop [3, 4] (fun z i => ∃ (k : Nat) (y : Int), k ≤ n ∧ i = .int .i64 k ∧ z = .int .i64 y ∧ 0 ≤ y ∧ y ≤ 1048576) (fun _ i => n - (intOf i).toNat)
  case atStart => exact ⟨0, 16 * n, Nat.zero_le _, rfl, rfl, by omega, by omega⟩
  case round =>
    obtain ⟨k, y, hk, rfl, rfl, hy0, hy1⟩ := hrel
    by_cases hlt : k < n
    · obtain ⟨b, off, rfl, hbw, hc, _⟩ := HH.out.2 k hlt
      obtain ⟨s, hs⟩ : ∃ s, s = ss.getD k ByteArray.empty := ⟨_, rfl⟩
      rw [← hs] at hc
      clear hs
      go_wp2
      · go_ret; exact ⟨⟨_, rfl, by omega, by omega⟩, rfl⟩
      · go_ret; exact ⟨⟨_, rfl, by omega, by omega⟩, rfl⟩
      · go_round
        case rel => exact ⟨k + 1, y + s.size, by omega, by go_num, rfl, by omega, by omega⟩
        case measure => simp [intOf]; omega
    · go_wp2
      go_ret
      exact ⟨⟨_, rfl, by omega, by omega⟩, rfl⟩
end Go.Proofs.Qxb6600293a
