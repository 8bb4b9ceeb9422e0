/-
  The plain mathematics: bytes of a string, decimal digits, their value. No Go in sight.
-/
import Derived.WalkKit
namespace Go.Proofs.Qxb6600333a
open Go.RowKit

/-- Byte k of a string, as a number; 0 behind its end. -/
def bt (s : ByteArray) (k : Nat) : Int := if h : k < s.size then ((s[k]'h).toNat : Int) else 0
theorem get_bt (s : ByteArray) : ∀ (n : Nat) (h : n < s.size), ((s[n]'h).toNat : Int) = bt s n := fun n h => by unfold bt; rw [dif_pos h]
theorem bt_nonneg (s : ByteArray) (k : Nat) : 0 ≤ bt s k := by unfold bt; split <;> omega
theorem bt_le (s : ByteArray) (k : Nat) : bt s k ≤ 255 := by
  unfold bt; split
  · have := (s[k]).toNat_lt; omega
  · omega

/-- The first n bytes are decimal digits. -/
def Digs (s : ByteArray) (n : Nat) : Prop := ∀ j, j < n → 48 ≤ bt s j ∧ bt s j ≤ 57

/-- Their value, read from the left. -/
def hor (s : ByteArray) : Nat → Int
  | 0 => 0
  | k + 1 => hor s k * 10 + (bt s k - 48)

/-- The value of the first L digits as a fraction, read over i places. -/
def frac (s : ByteArray) (L : Nat) : Nat → Int
  | 0 => 0
  | i + 1 => frac s L i * 10 + (if i < L then bt s i - 48 else 0)

theorem hor_bound (s : ByteArray) (n : Nat) (h : Digs s n) : ∀ k, k ≤ n → 0 ≤ hor s k ∧ hor s k < 10 ^ k := by
  intro k
  induction k with
  | zero => intro _; exact ⟨Int.le_refl _, by show (0 : Int) < 10 ^ 0; decide⟩
  | succ k ih =>
    intro hk
    have h1 := ih (by omega)
    have h2 := h k (by omega)
    have h3 : hor s (k + 1) = hor s k * 10 + (bt s k - 48) := rfl
    rw [h3, Int.pow_succ]
    omega

theorem frac_bound (s : ByteArray) (L : Nat) (h : Digs s L) : ∀ k, 0 ≤ frac s L k ∧ frac s L k < 10 ^ k := by
  intro k
  induction k with
  | zero => exact ⟨Int.le_refl _, by show (0 : Int) < 10 ^ 0; decide⟩
  | succ k ih =>
    have h3 : frac s L (k + 1) = frac s L k * 10 + (if k < L then bt s k - 48 else 0) := rfl
    rw [h3, Int.pow_succ]
    split
    · have h2 := h k (by omega)
      omega
    · omega

theorem frac_hor (s : ByteArray) (L : Nat) : ∀ k, k ≤ L → frac s L k = hor s k := by
  intro k
  induction k with
  | zero => intro _; rfl
  | succ k ih =>
    intro hk
    have h3 : frac s L (k + 1) = frac s L k * 10 + (if k < L then bt s k - 48 else 0) := rfl
    rw [h3, if_pos (by omega), ih (by omega)]
    rfl

theorem frac_past (s : ByteArray) (L : Nat) : ∀ j, frac s L (L + j) = hor s L * 10 ^ j := by
  intro j
  induction j with
  | zero => rw [Nat.add_zero, frac_hor s L L (Nat.le_refl _), Int.pow_zero, Int.mul_one]
  | succ j ih =>
    have h3 : frac s L (L + (j + 1)) = frac s L (L + j) * 10 + (if L + j < L then bt s (L + j) - 48 else 0) := rfl
    rw [h3, if_neg (by omega), ih, Int.pow_succ, Int.mul_assoc]
    omega

/-- The fraction's nine places: the value of the first min(L, 9) digits times the place value that is left. -/
theorem frac_nine_short (s : ByteArray) (L : Nat) (h : L ≤ 9) : frac s L 9 = hor s L * 10 ^ (9 - L) := by
  have := frac_past s L (9 - L)
  rw [show L + (9 - L) = 9 from by omega] at this
  exact this

theorem frac_nine_long (s : ByteArray) (L : Nat) (h : 9 ≤ L) : frac s L 9 = hor s 9 := frac_hor s L 9 h

theorem frac_congr (s t : ByteArray) (L M : Nat) : ∀ k, (∀ j, j < k → (if j < L then bt s j - 48 else 0) = (if j < M then bt t j - 48 else 0)) → frac s L k = frac t M k := by
  intro k
  induction k with
  | zero => intro _; rfl
  | succ k ih =>
    intro h
    have h1 : frac s L (k + 1) = frac s L k * 10 + (if k < L then bt s k - 48 else 0) := rfl
    have h2 : frac t M (k + 1) = frac t M k * 10 + (if k < M then bt t k - 48 else 0) := rfl
    rw [h1, h2, ih (fun j hj => h j (by omega)), h k (by omega)]

theorem hor_congr (s t : ByteArray) : ∀ k, (∀ j, j < k → bt s j = bt t j) → hor s k = hor t k := by
  intro k
  induction k with
  | zero => intro _; rfl
  | succ k ih =>
    intro h
    have h1 : hor s (k + 1) = hor s k * 10 + (bt s k - 48) := rfl
    have h2 : hor t (k + 1) = hor t k * 10 + (bt t k - 48) := rfl
    rw [h1, h2, ih (fun j hj => h j (by omega)), h k (by omega)]

/-! ### wraps -/
theorem wrap_step (x d : Int) : wrap64 (wrap64 x * 10 + d) = wrap64 (x * 10 + d) := by unfold wrap64; omega
theorem wrap_step' (x d : Int) : wrap64 (wrap64 (wrap64 x * 10) + d) = wrap64 (x * 10 + d) := by unfold wrap64; omega
theorem wrap_shift (x t : Int) : wrap64 (x + 18446744073709551616 * t) = wrap64 x := by unfold wrap64; omega
theorem wrap_is (x : Int) : ∃ q, wrap64 x = x + 18446744073709551616 * q := ⟨-((x + 9223372036854775808) / 18446744073709551616), by unfold wrap64; omega⟩
theorem wrap_mul (a b : Int) : wrap64 (a * wrap64 b) = wrap64 (a * b) := by
  obtain ⟨q, hq⟩ := wrap_is b
  rw [hq, Int.mul_add, show a * (18446744073709551616 * q) = 18446744073709551616 * (a * q) from by rw [← Int.mul_assoc, Int.mul_comm a, Int.mul_assoc], wrap_shift]
theorem wrap_add (a b : Int) : wrap64 (wrap64 a + wrap64 b) = wrap64 (a + b) := by unfold wrap64; omega
theorem wrap_idem (a : Int) : wrap64 (wrap64 a) = wrap64 a := by unfold wrap64; omega
theorem wrap_small {x : Int} (h0 : 0 ≤ x) (h1 : x ≤ 1000000000000) : wrap64 x = x := by unfold wrap64; omega

theorem pow_le_nine {k : Nat} (h : k ≤ 9) : (1 : Int) ≤ 10 ^ k ∧ (10 : Int) ^ k ≤ 1000000000 := by
  have h2 : k = 0 ∨ k = 1 ∨ k = 2 ∨ k = 3 ∨ k = 4 ∨ k = 5 ∨ k = 6 ∨ k = 7 ∨ k = 8 ∨ k = 9 := by omega
  rcases h2 with rfl | rfl | rfl | rfl | rfl | rfl | rfl | rfl | rfl | rfl <;> decide
end Go.Proofs.Qxb6600333a
