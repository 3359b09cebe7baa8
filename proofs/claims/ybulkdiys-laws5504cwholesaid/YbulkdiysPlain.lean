/-
  THE PLAIN LAW UNDER LawS5504CWhole: shift-and-add over the bits of b comes to the high word of a * b. No Go in this text.
-/
namespace Go.Proofs.Ybulkdiys

/-- The low word behind a round that adds a * 2^k. -/
def loN (lo a k : Nat) : Nat := (lo + a * 2 ^ k % 18446744073709551616) % 18446744073709551616
/-- The carry of that round. -/
def cN (lo a k : Nat) : Nat := (lo + a * 2 ^ k % 18446744073709551616) / 18446744073709551616
/-- The high word behind it. -/
def hiN (hi lo a k : Nat) : Nat := (hi + a * 2 ^ k / 18446744073709551616 + cN lo a k) % 18446744073709551616

theorem loN_lt (lo a k : Nat) : loN lo a k < 18446744073709551616 := Nat.mod_lt _ (by decide)
theorem hiN_lt (hi lo a k : Nat) : hiN hi lo a k < 18446744073709551616 := Nat.mod_lt _ (by decide)
theorem cN_le (lo a k : Nat) (h : lo < 18446744073709551616) : cN lo a k ≤ 1 := by
  unfold cN; omega

/-- The shifted high part: a >> (64 - k), k at least 1 and at most 64. -/
theorem shr_high (a k : Nat) (hk : k ≤ 64) : a / 2 ^ (64 - k) = a * 2 ^ k / 18446744073709551616 := by
  have e : 18446744073709551616 = 2 ^ (64 - k) * 2 ^ k := by
    rw [← Nat.pow_add]; rw [show 64 - k + k = 64 by omega]
  rw [e, Nat.mul_div_mul_right _ _ (Nat.two_pow_pos k)]

theorem mod_succ (b k : Nat) : b % 2 ^ (k + 1) = b % 2 ^ k + 2 ^ k * (b / 2 ^ k % 2) := by
  rw [Nat.pow_succ, Nat.mod_mul]

theorem add_core (hi lo t s : Nat) (hs : hi * 18446744073709551616 + lo = s)
    (hov : s + t < 340282366920938463463374607431768211456) :
    (hi + t / 18446744073709551616 + (lo + t % 18446744073709551616) / 18446744073709551616) % 18446744073709551616 * 18446744073709551616 + (lo + t % 18446744073709551616) % 18446744073709551616 = s + t := by
  have e := Nat.div_add_mod t 18446744073709551616
  have hr := Nat.mod_lt t (show 18446744073709551616 > 0 by decide)
  generalize t / 18446744073709551616 = q at *
  generalize t % 18446744073709551616 = r at *
  have e2 := Nat.div_add_mod (lo + r) 18446744073709551616
  have hr2 := Nat.mod_lt (lo + r) (show 18446744073709551616 > 0 by decide)
  generalize (lo + r) / 18446744073709551616 = c at *
  generalize (lo + r) % 18446744073709551616 = l at *
  have hlt : hi + q + c < 18446744073709551616 := by omega
  have e3 := Nat.mod_eq_of_lt hlt
  generalize (hi + q + c) % 18446744073709551616 = h at *
  clear hov hlt hr hr2
  subst e3 hs e
  rw [Nat.add_mul, Nat.add_mul]
  omega

/-- The round adds a * 2^k to the 128-bit number (hi, lo) where that does not overflow. -/
theorem add_round (hi lo a k s : Nat) (hs : hi * 18446744073709551616 + lo = s)
    (hov : s + a * 2 ^ k < 340282366920938463463374607431768211456) :
    hiN hi lo a k * 18446744073709551616 + loN lo a k = s + a * 2 ^ k := by
  exact add_core hi lo (a * 2 ^ k) s hs hov

theorem round_one (hi lo a b k : Nat) (ha : a < 18446744073709551616) (hb : b < 18446744073709551616)
    (hinv : hi * 18446744073709551616 + lo = a * (b % 2 ^ k)) (h1 : b / 2 ^ k % 2 = 1) :
    hiN hi lo a k * 18446744073709551616 + loN lo a k = a * (b % 2 ^ (k + 1)) := by
  have e : a * (b % 2 ^ (k + 1)) = a * (b % 2 ^ k) + a * 2 ^ k := by
    rw [mod_succ, h1, Nat.mul_one, Nat.mul_add]
  have hle : a * (b % 2 ^ (k + 1)) ≤ a * b := Nat.mul_le_mul_left _ (Nat.mod_le _ _)
  have hab : a * b < 340282366920938463463374607431768211456 := Nat.mul_lt_mul_of_lt_of_lt ha hb
  rw [e]
  exact add_round hi lo a k _ hinv (by omega)

theorem round_zero (a b k : Nat) (h1 : ¬ b / 2 ^ k % 2 = 1) : a * (b % 2 ^ (k + 1)) = a * (b % 2 ^ k) := by
  have h0 : b / 2 ^ k % 2 = 0 := by omega
  rw [mod_succ, h0, Nat.mul_zero, Nat.add_zero]

theorem at_end (hi lo a b : Nat) (hb : b < 18446744073709551616) (hlo : lo < 18446744073709551616)
    (hinv : hi * 18446744073709551616 + lo = a * (b % 2 ^ 64)) : hi = a * b / 18446744073709551616 := by
  have e : b % 2 ^ 64 = b := Nat.mod_eq_of_lt hb
  rw [e] at hinv
  rw [← hinv]
  omega

/-- t - start wrapped into 64 bits, as the walk writes it (an int64's difference, then a uint64). -/
theorem wrap_diff (x : Int) : ∃ n : Nat, n < 18446744073709551616 ∧ x % 18446744073709551616 = (n : Int) := by
  refine ⟨(x % 18446744073709551616).toNat, ?_, ?_⟩ <;> omega

end Go.Proofs.Ybulkdiys
