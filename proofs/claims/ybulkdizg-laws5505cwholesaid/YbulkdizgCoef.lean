/-
  (encoding/binary.littleEndian).AppendUint32 and zzs5505ccoef, walked over this dump.
-/
import Derived.Test.YbulkdizgEqual
import Derived.Deep.DeepMust
import Derived.Lib.EndianBits
import Derived.Outline
namespace Go.Proofs.Ybulkdizg
open Go.RowKit

set_option maxHeartbeats 1000000 in
theorem app32 (B n g0 cap0 : Nat) (xs : List Value) (x : Int) (w : World) (hown : w.ownsRow B 5 1 (.slice (some ⟨g0, 0, none⟩) n cap0) n xs) (hB : B ≤ w.heap.size) (hn : n ≤ 1000000000) (hx0 : 0 ≤ x) (hx : x < 4294967296) :
    Calls Yba.prog 13 #[.agg #[], .slice (some ⟨g0, 0, none⟩) n cap0, .int .u32 x] w fun e w' => ∃ g cap, e = .returned (.slice (some ⟨g, 0, none⟩) (n + 4) cap) ∧
      w'.ownsRow B 5 1 (.slice (some ⟨g, 0, none⟩) (n + 4) cap) (n + 4) (xs ++ bytesV [x % 256, x / 256 % 256, x / 65536 % 256, x / 16777216]) ∧ Grew w w' (.slice (some ⟨g0, 0, none⟩) n cap0) (.slice (some ⟨g, 0, none⟩) (n + 4) cap) := by
  go_enter Yba.func13, Yba.ntmps13
  go_wp2_with (at_builtin; go_must (refine wpList_app (w.alloc (.cells #[] 58)) rfl _ _ 22 rfl 5 Yba.underlying22 info5 B g0 cap0 n xs (by rfl) (hown.alloc _) (w.heap.size + 1) (by simp) 4 _ (by rfl) (by rfl) (by simp [Value.oneCell']) (by omega) (by omega) (by simp; omega) ?_); intro g cap w1 hown1 hgrow1)
  go_ret
  exact ⟨g, cap, rfl, by simpa [bytesV] using hown1, hgrow1.ofAlloc⟩

theorem ret_int {k : IntKind} {a b : Int} (h : a = b) : Ending.returned (.int k a) = .returned (.int k b) := by rw [h]

theorem and_u16 (a b : Nat) (ha : a < 65536) (hb : b < 65536) : bits .and .u16 (a : Int) (b : Int) = ((a &&& b : Nat) : Int) := (bits_nat .u16 16 (by decide) wraps_u16 a b ha hb).1
theorem and4095 (a : Nat) (ha : a < 65536) : bits .and .u16 (a : Int) 4095 = ((a % 4096 : Nat) : Int) := by
  have h := and_u16 a 4095 ha (by omega)
  have e : a &&& 4095 = a % 4096 := Nat.and_two_pow_sub_one_eq_mod a 12
  rw [e] at h
  exact h

/-- The coefficient that the law lays at t[i][j] (c: the numbers of coeffs). -/
def coefOf (c : List Int) (i j : Nat) : Int := if c.length = 0 then 0 else c.getD ((i * 256 + j) % c.length) 0 % 4096

set_option maxHeartbeats 1000000 in
theorem coef_any (a0 : Option Addr) (len0 cap0 i j : Nat) (c : List Int) (w : World) (hl : c.length = len0) (hn : len0 ≤ 1048576) (hi : i < 4) (hj : j < 256)
    (hc : 0 < len0 → ∃ b o, a0 = some ⟨b, o, none⟩ ∧ ∀ t, t < len0 → w.cell? ⟨b, o + t, none⟩ = some (.int .u16 (c.getD t 0))) (hb : ∀ t, 0 ≤ c.getD t 0 ∧ c.getD t 0 ≤ 65535) :
    Calls Yba.prog 8 #[.slice a0 len0 cap0, .int .i64 i, .int .i64 j] w fun e w' => e = .returned (.int .u16 (coefOf c i j)) ∧ w' = w := by
  by_cases h0 : len0 = 0
  · have hz : ((len0 : Int) == 0) = true := by rw [beq_iff_eq]; omega
    go_enter Yba.func8, Yba.ntmps8
    go_wp2
    go_ret
    exact ⟨by unfold coefOf; rw [if_pos (by omega)]; rfl, rfl⟩
  · obtain ⟨b, o, rfl, hcell⟩ := hc (by omega)
    have hm : (i * 256 + j) % len0 < len0 := Nat.mod_lt _ (by omega)
    have hmI : ((i : Int) * 256 + (j : Int)) % (len0 : Int) < (len0 : Int) := by
      have : (((i * 256 + j) % len0 : Nat) : Int) < (len0 : Int) := by omega
      simpa using this
    have hmN : ¬ ((i : Int) * 256 + (j : Int)) % (len0 : Int) < 0 := by
      have : (0 : Int) ≤ (((i * 256 + j) % len0 : Nat) : Int) := by omega
      have e : (((i * 256 + j) % len0 : Nat) : Int) = ((i : Int) * 256 + (j : Int)) % (len0 : Int) := by simp
      omega
    have hct := hcell _ hm
    have hbt := hb ((i * 256 + j) % len0)
    have hz : ((len0 : Int) == 0) = false := by rw [beq_eq_false_iff_ne]; omega
    have HV : Hid (coefOf c i j = c.getD ((i * 256 + j) % len0) 0 % 4096) := by
      show _ = _
      unfold coefOf; rw [if_neg (by omega), hl]
    clear hc hcell hb hl
    generalize c.getD ((i * 256 + j) % len0) 0 = v at *
    obtain ⟨v, rfl⟩ := Int.eq_ofNat_of_zero_le hbt.1
    have hand : bits BinOp.and IntKind.u16 (v : Int) 4095 = ((v % 4096 : Nat) : Int) := and4095 v (by omega)
    go_enter Yba.func8, Yba.ntmps8
    go_wp2
    go_ret
    exact ⟨ret_int (by rw [HV.out]), rfl⟩
end Go.Proofs.Ybulkdizg
