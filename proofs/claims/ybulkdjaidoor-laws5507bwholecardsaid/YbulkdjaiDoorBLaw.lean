/-
  LawS5507BWhole, walked over this dump: whatever the input, true. (Loop 1 here; the rest: the pieces BP13 .. BP70, each the law's text from one of its regions on.)
-/
import Derived.Test.YbulkdjaiDoorBP13
namespace Go.Proofs.YbulkdjaiDoor.B
open Go.RowKit

set_option maxHeartbeats 4000000 in
set_option maxRecDepth 100000 in
theorem law_any (kd vw ep rp sy le pt ps ct : Nat) (a8 a9 a10 : Option Addr) (len8 cap8 len9 cap9 len10 cap10 : Nat) (f8 t10 : List Int) (A : Nat → Option Addr) (Ln Cp : Nat → Nat) (Bs : Nat → List Int) (te : TypeId) (ve : Value) (w : World)
    (hEq : ∀ W, (binOp .eql 33 (.iface te ve) (.iface te ve)).run Ybad.prog W = .ok (.bool true) W) (hE : w.cell? ⟨0, 0, none⟩ = some (.iface te ve))
    (hkd : kd < 256) (hvw : vw < 18446744073709551616) (hep : ep < 18446744073709551616) (hrp : rp < 65536) (hsy : sy < 18446744073709551616) (hle : le < 18446744073709551616) (hpt : pt < 4294967296) (hps : ps < 4294967296) (hct : ct < 65536)
    (h8 : BytesIn w a8 len8 f8) (hb8 : Byt f8) (h10 : BytesIn w a10 len10 t10) (hl10 : t10.length = len10) (hb10 : Byt t10) (hit : Items w a9 len9 A Ln Cp Bs)
    (hm8 : len8 ≤ 140737488355328) (hm9 : len9 ≤ 140737488355328) (hm10 : len10 ≤ 140737488355328) (hmi : ∀ j, j < len9 → Ln j ≤ 140737488355328) :
    Calls Ybad.prog 3 #[.int .u8 kd, .int .u64 vw, .int .u64 ep, .int .u16 rp, .int .u64 sy, .int .u64 le, .int .u32 pt, .int .u32 ps, .slice a8 len8 cap8, .slice a9 len9 cap9, .slice a10 len10 cap10, .int .u16 ct] w (Good w) := by
  by_cases htot : len8 + len10 + len9 ≤ 1048576
  · have hd0 : decide (1048576 < (len8 : Int) + (len10 : Int) + (len9 : Int)) = false := by simp; omega
    have HIT := hide hit
    have HEQ := hide hEq
    have H8 := hide h8
    have HB8 := hide hb8
    have H10 := hide h10
    have HE := hide hE
    have HB10 := hide hb10
    clear hEq h10 hE hb10 hit h8 hb8
    go_enter Ybad.func3, Ybad.ntmps3
    go_wp2_with fail
    go_loopw [25, 26] (fun tv iv wr => ∃ i : Nat, i ≤ len9 ∧ iv = .int .i64 i ∧ tv = .int .i64 ((len8 + len10 + len9 + sumL Ln i : Nat) : Int) ∧ len8 + len10 + len9 + sumL Ln i ≤ 1048576 ∧ w = wr) (fun _ iv _ => (len9 - intOf iv).toNat)
    case atStart => exact ⟨0, by omega, rfl, by simp [sumL], by simpa [sumL] using htot, rfl⟩
    case round =>
      obtain ⟨i, hi, rfl, rfl, hsum, rfl⟩ := hrel
      by_cases h : i < len9
      · obtain ⟨b9, o9, rfl, hc9⟩ := HIT.out.at' (by omega)
        have hcell := hc9 i h
        have hcap := HIT.out.cap i h
        have hmi' := hmi i h
        have HS : Hid (len8 + len10 + len9 + sumL Ln (i + 1) = len8 + len10 + len9 + sumL Ln i + Ln i) := by show _ = _; rw [sumL, Nat.add_assoc (len8 + len10 + len9)]
        clear hc9
        have HS2 := HS.out
        clear HS
        generalize len8 + len10 + len9 + sumL Ln i = tot at *
        generalize Ln i = ln at *
        have HS := hide HS2
        clear HS2
        by_cases hbig : tot + ln ≤ 1048576
        · have hd1 : decide (1048576 < (tot : Int) + (ln : Int)) = false := by simp; omega
          go_wp2_with fail
          go_roundw
          case rel => exact ⟨i + 1, by omega, by simp, by rw [HS.out]; simp, by rw [HS.out]; exact hbig, trivial⟩
          case measure => simp [intOf]; omega
        · have hd1 : decide (1048576 < (tot : Int) + (ln : Int)) = true := by simp; omega
          go_wp2_with fail
          go_ret
          exact ⟨rfl, Below.refl _ _⟩
      · obtain rfl : len9 = i := by omega
        have HSUM := hide hsum
        clear hsum
        go_upto_if 71 with fail
        rename_i K1 hK1
        have HK1 := hide hK1
        clear hK1
        by_cases h7 : kd % 8 = 7
        · have h7b : ((kd : Int) % 8 == 7) = true := by rw [beq_iff_eq]; omega
          go_wp2_with fail
          exact HK1.out _ _ (piece13 w kd vw ep rp sy le pt ps ct a8 a9 a10 len8 cap8 len9 cap9 len10 cap10 f8 t10 A Ln Cp Bs te ve HEQ.out HE.out hkd hvw hep hrp hsy hle hpt hps hct H8.out HB8.out H10.out hl10 HB10.out HIT.out HSUM.out)
        · have h7b : ((kd : Int) % 8 == 7) = false := by rw [beq_eq_false_iff_ne]; omega
          go_wp2_with fail
          exact HK1.out _ _ (piece13 w 16 vw ep rp sy le pt ps ct a8 a9 a10 len8 cap8 len9 cap9 len10 cap10 f8 t10 A Ln Cp Bs te ve HEQ.out HE.out (by omega) hvw hep hrp hsy hle hpt hps hct H8.out HB8.out H10.out hl10 HB10.out HIT.out HSUM.out)
  · have hd0 : decide (1048576 < (len8 : Int) + (len10 : Int) + (len9 : Int)) = true := by simp; omega
    go_enter Ybad.func3, Ybad.ntmps3
    go_wp2_with fail
    go_ret
    exact ⟨rfl, Below.refl _ _⟩
end Go.Proofs.YbulkdjaiDoor.B
