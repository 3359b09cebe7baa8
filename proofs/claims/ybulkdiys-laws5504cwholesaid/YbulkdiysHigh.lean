/-
  THE WALKS under LawS5504CWhole: bits.Add64, bits.Mul64, rise, zzs5504chigh and the law itself, over this dump. The plain arithmetic: YbulkdiysPlain.
-/
import Derived.Test.YbulkdiysRows
import Derived.Test.YbulkdiysPlain
import Derived.WalkKit
import Derived.WalkSpells
import Derived.Laws.Externs
import Derived.Lib.Mul64
import Derived.Laws.Bits64b
import Derived.Deep.QuietTactic
import Derived.BigQuiet
import Derived.RowKit3
import Derived.OpenShut
namespace Go.Proofs.Ybulkdiys
open Go.RowKit Go.Lib

theorem add64 (x y c : Int) (hx : 0 ≤ x) (hy : 0 ≤ y) (hc0 : 0 ≤ c) (hc : c ≤ 1) (w : World) : (callFunc 7 #[.int .u64 x, .int .u64 y, .int .u64 c]).run Yba.prog w =
    .ok (.value (.tuple #[.int .u64 ((x + y + c) % 18446744073709551616), .int .u64 ((x + y + c) / 18446744073709551616)])) w := by
  rw [run_callFunc_extern Yba.func7 (by kernel_rfl) (by kernel_rfl) (by kernel_rfl) (e := add64Entry) (by kernel_rfl), run_add64 x y c hx hy hc0 hc]
  rfl

theorem add64_lo (lo a k : Nat) (w : World) : (callFunc 7 #[.int .u64 lo, .int .u64 (IntKind.u64.wrap (a * 2 ^ k)), .int .u64 0]).run Yba.prog w =
    .ok (.value (.tuple #[.int .u64 (loN lo a k : Nat), .int .u64 (cN lo a k : Nat)])) w := by
  have e : IntKind.u64.wrap ((a : Int) * 2 ^ k) = ((a * 2 ^ k % 18446744073709551616 : Nat) : Int) := by
    rw [IntKind.wrap_u64]; simp
  rw [e, add64 _ _ _ (by omega) (by omega) (by omega) (by omega)]
  have e1 : ((lo : Int) + ((a * 2 ^ k % 18446744073709551616 : Nat) : Int) + 0) % 18446744073709551616 = (loN lo a k : Nat) := by
    unfold loN; omega
  have e2 : ((lo : Int) + ((a * 2 ^ k % 18446744073709551616 : Nat) : Int) + 0) / 18446744073709551616 = (cN lo a k : Nat) := by
    unfold cN; omega
  rw [e1, e2]

theorem add64_hi (hi lo a k : Nat) (hlo : lo < 18446744073709551616) (w : World) : (callFunc 7 #[.int .u64 hi, .int .u64 ((a * 2 ^ k / 18446744073709551616 : Nat) : Int), .int .u64 (cN lo a k : Nat)]).run Yba.prog w =
    .ok (.value (.tuple #[.int .u64 (hiN hi lo a k : Nat), .int .u64 ((hi + a * 2 ^ k / 18446744073709551616 + cN lo a k) / 18446744073709551616 : Nat)])) w := by
  have hc := cN_le lo a k hlo
  rw [add64 _ _ _ (by omega) (by omega) (by omega) (by omega)]
  unfold hiN
  congr 5 <;> omega

theorem add64_hi1 (hi lo a k : Nat) (hlo : lo < 18446744073709551616) (hk : k ≤ 64) (w : World) : (callFunc 7 #[.int .u64 hi, .int .u64 ((a : Int) / 2 ^ (64 - k)), .int .u64 (cN lo a k : Nat)]).run Yba.prog w =
    .ok (.value (.tuple #[.int .u64 (hiN hi lo a k : Nat), .int .u64 ((hi + a * 2 ^ k / 18446744073709551616 + cN lo a k) / 18446744073709551616 : Nat)])) w := by
  have e : (a : Int) / 2 ^ (64 - k) = ((a * 2 ^ k / 18446744073709551616 : Nat) : Int) := by
    rw [← shr_high a k hk]; simp
  rw [e]
  exact add64_hi hi lo a k hlo w

theorem add64_hi0 (hi lo a k : Nat) (ha : a < 18446744073709551616) (hlo : lo < 18446744073709551616) (hk : ¬ 0 < k) (w : World) : (callFunc 7 #[.int .u64 hi, .int .u64 0, .int .u64 (cN lo a k : Nat)]).run Yba.prog w =
    .ok (.value (.tuple #[.int .u64 (hiN hi lo a k : Nat), .int .u64 ((hi + a * 2 ^ k / 18446744073709551616 + cN lo a k) / 18446744073709551616 : Nat)])) w := by
  obtain rfl : k = 0 := by omega
  have e : (0 : Int) = ((a * 2 ^ 0 / 18446744073709551616 : Nat) : Int) := by
    simp; omega
  have h := add64_hi hi lo a 0 hlo w
  rw [← e] at h
  exact h

theorem ret_int {k : IntKind} {a b : Int} (h : a = b) : Ending.returned (.int k a) = .returned (.int k b) := by rw [h]

theorem bit_one (b k : Nat) (hb : b < 18446744073709551616) : bits BinOp.and IntKind.u64 ((b : Int) / 2 ^ k) 1 = ((b / 2 ^ k % 2 : Nat) : Int) := by
  have e : (b : Int) / 2 ^ k = ((b / 2 ^ k : Nat) : Int) := by simp
  have hle : b / 2 ^ k ≤ b := Nat.div_le_self _ _
  rw [e]
  have h := bits_and_u64_nat (b / 2 ^ k) 1 (by omega) (by omega)
  rw [Nat.and_one_is_mod] at h
  exact h

set_option maxHeartbeats 1000000 in
theorem high_any (a b : Nat) (ha : a < 18446744073709551616) (hb : b < 18446744073709551616) (w : World) :
    Calls Yba.prog 5 #[.int .u64 a, .int .u64 b] w fun e w' => e = .returned (.int .u64 ((a * b / 18446744073709551616 : Nat) : Int)) ∧ w' = w := by
  go_enter Yba.func5, Yba.ntmps5
  go_wp2
  go_loop [5, 6, 7] (fun h l i => ∃ k hi lo : Nat, k ≤ 64 ∧ i = .int .u64 k ∧ h = .int .u64 hi ∧ l = .int .u64 lo ∧ hi < 18446744073709551616 ∧ lo < 18446744073709551616 ∧ Hid (hi * 18446744073709551616 + lo = a * (b % 2 ^ k))) (fun _ _ i => 64 - (intOf i).toNat)
  case atStart => exact ⟨0, 0, 0, by omega, rfl, rfl, rfl, by omega, by omega, by show _ = _; simp [Nat.mod_one]⟩
  case round =>
    obtain ⟨k, hi, lo, hk, rfl, rfl, rfl, hhi, hlo, hinv⟩ := hrel
    by_cases hlt : k < 64
    · by_cases hb1 : b / 2 ^ k % 2 = 1
      · have hbt : (bits BinOp.and IntKind.u64 ((b : Int) / 2 ^ k) 1 == 1) = true := by
          rw [bit_one b k hb, hb1]; rfl
        have hnew : Hid (hiN hi lo a k * 18446744073709551616 + loN lo a k = a * (b % 2 ^ (k + 1))) := round_one hi lo a b k ha hb hinv.out hb1
        have hH := hiN_lt hi lo a k
        have hL := loN_lt lo a k
        by_cases h0 : 0 < k
        · go_wp2_with (first | simp only [add64_lo lo a k] | simp only [add64_hi1 hi lo a k hlo hk])
          go_round
          case rel => exact ⟨k + 1, hiN hi lo a k, loN lo a k, by omega, by go_num, rfl, rfl, hH, hL, hnew⟩
          case measure => simp [intOf]; omega
        · go_wp2_with (first | simp only [add64_lo lo a k] | simp only [add64_hi0 hi lo a k ha hlo h0])
          go_round
          case rel => exact ⟨k + 1, hiN hi lo a k, loN lo a k, by omega, by go_num, rfl, rfl, hH, hL, hnew⟩
          case measure => simp [intOf]; omega
      · have hbt : (bits BinOp.and IntKind.u64 ((b : Int) / 2 ^ k) 1 == 1) = false := by
          rw [bit_one b k hb]; have : b / 2 ^ k % 2 = 0 := by omega
          rw [this]; rfl
        have hnew : Hid (hi * 18446744073709551616 + lo = a * (b % 2 ^ (k + 1))) := by
          show _ = _
          rw [round_zero a b k hb1]; exact hinv.out
        go_wp2_with fail
        go_round
        case rel => exact ⟨k + 1, hi, lo, by omega, by go_num, rfl, rfl, hhi, hlo, hnew⟩
        case measure => simp [intOf]; omega
    · have H : Hid (hi = a * b / 18446744073709551616) := at_end hi lo a b hb hlo (by have h := hinv.out; rw [show k = 64 by omega] at h; exact h)
      go_wp2_with fail
      go_ret
      exact ⟨ret_int (by have := H.out; rw [this]; simp), rfl⟩

theorem maskN (a : Nat) (ha : a < 18446744073709551616) : bits .and .u64 (a : Int) 4294967295 = ((a % 4294967296 : Nat) : Int) := by
  have h := bits_and_u64_nat a 4294967295 ha (by omega)
  have e : a &&& 4294967295 = a % 4294967296 := Nat.and_two_pow_sub_one_eq_mod a 32
  rw [e] at h
  exact h
theorem divN (a : Nat) : (a : Int) / 4294967296 = ((a / 4294967296 : Nat) : Int) := by omega
theorem mulN (a b : Nat) : (a : Int) * (b : Int) = ((a * b : Nat) : Int) := (Int.natCast_mul a b).symm
theorem addN (a b : Nat) : (a : Int) + (b : Int) = ((a + b : Nat) : Int) := (Int.natCast_add a b).symm
theorem wrapN (a : Nat) (ha : a < 18446744073709551616) : IntKind.u64.wrap (a : Int) = (a : Int) := by rw [IntKind.wrap_u64]; omega
theorem wrapM (a : Nat) : IntKind.u64.wrap (a : Int) = ((a % 18446744073709551616 : Nat) : Int) := by rw [IntKind.wrap_u64]; omega

set_option maxHeartbeats 1000000 in
/-- math/bits.Mul64, walked as the guide's shelf walks it. -/
theorem mul64_any (x y : Nat) (hx : x < 18446744073709551616) (hy : y < 18446744073709551616) (w : World) :
    Calls Yba.prog 6 #[.int .u64 x, .int .u64 y] w fun e w' => e = .returned (.tuple #[.int .u64 ((x * y / 18446744073709551616 : Nat) : Int), .int .u64 ((x * y % 18446744073709551616 : Nat) : Int)]) ∧ w' = w := by
  obtain ⟨bd, bt, bw, hhi⟩ := Lib.mul64_hi x y hx hy
  have ba := Lib.half_mul_le (a := x / 4294967296) (b := y / 4294967296) (by omega) (by omega)
  have bb := Lib.half_mul_le (a := x / 4294967296) (b := y % 4294967296) (by omega) (by omega)
  have bc := Lib.half_mul_le (a := x % 4294967296) (b := y / 4294967296) (by omega) (by omega)
  have ba' : x / 4294967296 * (y / 4294967296) < 18446744073709551616 := by omega
  have bb' : x / 4294967296 * (y % 4294967296) < 18446744073709551616 := by omega
  have bc' : x % 4294967296 * (y / 4294967296) < 18446744073709551616 := by omega
  have bh1 : x / 4294967296 * (y / 4294967296) + (x / 4294967296 * (y % 4294967296) + x % 4294967296 * (y % 4294967296) / 4294967296) / 4294967296 < 18446744073709551616 := by omega
  have bh : x / 4294967296 * (y / 4294967296) + (x / 4294967296 * (y % 4294967296) + x % 4294967296 * (y % 4294967296) / 4294967296) / 4294967296 + ((x / 4294967296 * (y % 4294967296) + x % 4294967296 * (y % 4294967296) / 4294967296) % 4294967296 + x % 4294967296 * (y / 4294967296)) / 4294967296 < 18446744073709551616 := by omega
  go_enter Yba.func6, Yba.ntmps6
  go_wp2
  simp only [maskN x hx, maskN y hy, divN, mulN, addN, wrapN _ bd, wrapN _ bb', wrapN _ bt, maskN _ bt, wrapN _ bc', wrapN _ bw, wrapN _ ba', wrapN _ bh1, wrapN _ bh, wrapM (x * y)]
  rw [hhi]
  go_ret2
  exact ⟨rfl, rfl⟩

/-- The high word of the product of two words. -/
def highOf (x y : Int) : Int := ((x.toNat * y.toNat / 18446744073709551616 : Nat) : Int)

theorem high_int (x y : Int) (hx : 0 ≤ x) (hx' : x < 18446744073709551616) (hy : 0 ≤ y) (hy' : y < 18446744073709551616) (w : World) :
    Calls Yba.prog 5 #[.int .u64 x, .int .u64 y] w fun e w' => e = .returned (.int .u64 (highOf x y)) ∧ w' = w := by
  obtain ⟨x, rfl⟩ := Int.eq_ofNat_of_zero_le hx
  obtain ⟨y, rfl⟩ := Int.eq_ofNat_of_zero_le hy
  exact high_any x y (by omega) (by omega) w

theorem mul64_int (x y : Int) (hx : 0 ≤ x) (hx' : x < 18446744073709551616) (hy : 0 ≤ y) (hy' : y < 18446744073709551616) (w : World) :
    Calls Yba.prog 6 #[.int .u64 x, .int .u64 y] w fun e w' => e = .returned (.tuple #[.int .u64 (highOf x y), .int .u64 ((x.toNat * y.toNat % 18446744073709551616 : Nat) : Int)]) ∧ w' = w := by
  obtain ⟨x, rfl⟩ := Int.eq_ofNat_of_zero_le hx
  obtain ⟨y, rfl⟩ := Int.eq_ofNat_of_zero_le hy
  exact mul64_any x y (by omega) (by omega) w

theorem word_lo (x : Int) : 0 ≤ IntKind.u64.wrap x := by rw [IntKind.wrap_u64]; omega
theorem word_hi (x : Int) : IntKind.u64.wrap x < 18446744073709551616 := by rw [IntKind.wrap_u64]; omega

set_option maxHeartbeats 1000000 in
theorem rise_any (bk : Nat) (s r t : Int) (hr : 0 ≤ r) (hr' : r < 18446744073709551616) (w : World)
    (c0 : w.cell? ⟨bk, 0, none⟩ = some (.int .i64 s)) (c2 : w.cell? ⟨bk, 2, none⟩ = some (.int .u64 r)) :
    Calls Yba.prog 4 #[.pointer (some ⟨bk, 0, none⟩), .int .i64 t] w fun e w' => e = .returned (.int .u64 (highOf (IntKind.u64.wrap (wrap64 (t - s))) r)) ∧ ∃ n, w' = w.drewN n := by
  go_enter Yba.func4, Yba.ntmps4
  go_wp2_with fail
  go_quiet ((go_at_call 6; exact Calls.quiet_of_same (mul64_int _ _ (word_lo _) (word_hi _) hr hr' _)))
  go_wp2_with fail
  go_ret
  exact ⟨ret_int rfl, _, rfl⟩

set_option maxHeartbeats 1000000 in
theorem walk (a0 : Int) (a1 : Int) (a2 : Int) (a3 : Int) (w2 : (Lit.int .u64 a2).wf = true) (w : World) :
    Calls Yba.prog 3 #[.int .i64 a0, .int .i64 a1, .int .u64 a2, .int .i64 a3] w fun e w' => e = .returned (.bool true) ∧ Grown w w' := by
  have h2 : 0 ≤ a2 ∧ a2 < 18446744073709551616 := by
    have := bounds_u64 w2
    omega
  obtain ⟨h2, h2'⟩ := h2
  go_enter Yba.func3, Yba.ntmps3
  go_wp2_with fail
  refine (rise_any _ a0 a2 a3 h2 h2' _ ?c0 ?c2).mono ?_
  case c0 => simp [go_sem]
  case c2 => simp [go_sem]
  rintro e w1 ⟨rfl, n, rfl⟩
  go_wp2_with fail
  refine (high_int _ _ (word_lo _) (word_hi _) h2 h2' _).mono ?_
  rintro e w1 ⟨rfl, rfl⟩
  go_wp2_with fail
  go_ret
  exact ⟨rfl, by repeat (first | exact Grown.refl _ | apply Grown.drew | apply Grown.alloc)⟩
end Go.Proofs.Ybulkdiys
