/-
  THE PLAIN NUMBERS: the digits of a packed polynomial; the three bytes of two coefficients.
-/
import Derived.Test.YbulkdizgEk
namespace Go.Proofs.Ybulkdizg
open Go.RowKit

/-- The number whose digits (12 bits each) are f 0, f 1, .. -/
def numOf (f : Nat → Nat) : Nat → Nat
  | 0 => 0
  | k + 1 => numOf f k + f k * 2 ^ (12 * k)
theorem numOf_lt (f : Nat → Nat) (hf : ∀ t, f t < 4096) : ∀ k, numOf f k < 2 ^ (12 * k)
  | 0 => by simp [numOf]
  | k + 1 => by
    have h := numOf_lt f hf k
    have h1 : (f k + 1) * 2 ^ (12 * k) ≤ 4096 * 2 ^ (12 * k) := Nat.mul_le_mul_right _ (hf k)
    have e : 2 ^ (12 * (k + 1)) = 4096 * 2 ^ (12 * k) := by rw [Nat.mul_add, Nat.pow_add, Nat.mul_comm]
    rw [Nat.add_mul] at h1
    rw [numOf, e]
    omega
theorem numOf_digit (f : Nat → Nat) (hf : ∀ t, f t < 4096) : ∀ k t, t < k → numOf f k / 2 ^ (12 * t) % 4096 = f t
  | 0, t, h => absurd h (by omega)
  | k + 1, t, h => by
    rw [numOf]
    by_cases e : t = k
    · subst e
      rw [Nat.add_mul_div_right _ _ (Nat.two_pow_pos _), Nat.div_eq_of_lt (numOf_lt f hf t), Nat.zero_add, Nat.mod_eq_of_lt (hf t)]
    · have e1 : f k * 2 ^ (12 * k) = (f k * 2 ^ (12 * (k - t - 1)) * 4096) * 2 ^ (12 * t) := by
        rw [Nat.mul_assoc, Nat.mul_assoc, show (4096 : Nat) = 2 ^ 12 from rfl, ← Nat.pow_add, ← Nat.pow_add]
        congr 2
        omega
      rw [e1, Nat.add_mul_div_right _ _ (Nat.two_pow_pos _), Nat.add_mul_mod_self_right]
      exact numOf_digit f hf k t (by omega)

/-- The coefficients and what each polynomial packs to. -/
def coefN (c : List Int) (i j : Nat) : Nat := (coefOf c i j).toNat
def nums (c : List Int) (i : Nat) : Nat := numOf (coefN c i) 256
theorem coefOf_bd (c : List Int) (i j : Nat) : 0 ≤ coefOf c i j ∧ coefOf c i j < 4096 := by
  unfold coefOf
  split <;> omega
theorem coefN_lt (c : List Int) (i j : Nat) : coefN c i j < 4096 := by have := coefOf_bd c i j; unfold coefN; omega
theorem coefN_eq (c : List Int) (i j : Nat) : coefOf c i j = (coefN c i j : Int) := by have := coefOf_bd c i j; unfold coefN; omega
theorem nums_digit (c : List Int) (i t : Nat) (ht : t < 256) : nums c i / 2 ^ (12 * t) % 4096 = coefN c i t := numOf_digit _ (coefN_lt c i) 256 t ht

/-- THREE BYTES MORE: the law's own packing of two coefficients. -/
theorem leB_three (N m x y : Nat) (hx : N / 2 ^ (12 * (2 * m)) % 4096 = x) (hy : N / 2 ^ (12 * (2 * m + 1)) % 4096 = y) :
    leB N (3 * (m + 1)) = leB N (3 * m) ++ [((x % 256 : Nat) : Int), ((x / 256 + y % 16 * 16 : Nat) : Int), ((y / 16 : Nat) : Int)] := by
  rw [show 3 * (m + 1) = 3 * m + 1 + 1 + 1 by omega, leB_succ, leB_succ, leB_succ, List.append_assoc, List.append_assoc]
  have e0 : 8 * (3 * m) = 24 * m := by omega
  have e1 : 8 * (3 * m + 1) = 24 * m + 8 := by omega
  have e2 : 8 * (3 * m + 1 + 1) = 24 * m + 16 := by omega
  have e3 : 12 * (2 * m) = 24 * m := by omega
  have e4 : 12 * (2 * m + 1) = 24 * m + 12 := by omega
  rw [e3] at hx
  rw [e4, Nat.pow_add, ← Nat.div_div_eq_div_mul] at hy
  rw [e0, e1, e2, Nat.pow_add, Nat.pow_add, ← Nat.div_div_eq_div_mul, ← Nat.div_div_eq_div_mul]
  generalize N / 2 ^ (24 * m) = M at *
  simp only [List.cons_append, List.nil_append]
  congr 1
  simp only [List.cons.injEq, and_true]
  refine ⟨?_, ?_, ?_⟩ <;> congr 1 <;> omega

theorem bits_and (a : Nat) (ha : a < 65536) : bits BinOp.and IntKind.u16 (a : Int) 255 = ((a % 256 : Nat) : Int) ∧ bits BinOp.and IntKind.u16 (a : Int) 15 = ((a % 16 : Nat) : Int) := by
  have h1 := and_u16 a 255 ha (by omega)
  have h2 := and_u16 a 15 ha (by omega)
  rw [show a &&& 255 = a % 256 from Nat.and_two_pow_sub_one_eq_mod a 8] at h1
  rw [show a &&& 15 = a % 16 from Nat.and_two_pow_sub_one_eq_mod a 4] at h2
  exact ⟨h1, h2⟩
theorem or_u8 (a b : Nat) (ha : a < 16) (hb : b < 16) : bits BinOp.or IntKind.u8 (a : Int) ((b : Int) * 16) = ((a + b * 16 : Nat) : Int) := by
  have h := (bits_nat .u8 8 (by decide) wraps_u8 a (b * 2 ^ 4) (by omega) (by omega)).2
  rw [acc_or a b 4 (by omega)] at h
  simpa using h
end Go.Proofs.Ybulkdizg
