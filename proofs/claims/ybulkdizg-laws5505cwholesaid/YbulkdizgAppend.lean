/-
  appendBytes, walked over this dump.
-/
import Derived.Test.YbulkdizgNtt
namespace Go.Proofs.Ybulkdizg
open Go.RowKit

/-- The packed polynomials, k of them. -/
def packs (Ns : Nat → Nat) : Nat → List Int
  | 0 => []
  | k + 1 => packs Ns k ++ leB (Ns k) 384
theorem length_packs (Ns : Nat → Nat) (k : Nat) : (packs Ns k).length = 384 * k := by
  induction k with
  | zero => rfl
  | succ k ih => rw [packs, List.length_append, ih, length_leB]; omega

set_option maxRecDepth 100000 in
set_option maxHeartbeats 4000000 in
theorem append_any (B n g0 cap0 S K k : Nat) (Ns : Nat → Nat) (rho : List Int) (hrl : rho.length = 32) (xs : List Value) (w : World) (hown : w.ownsRow B 5 1 (.slice (some ⟨g0, 0, none⟩) n cap0) n xs) (hB : B ≤ w.heap.size) (hn : n ≤ 10000000)
    (hk : k ≤ 4) (hS : S < w.heap.size) (hSg : S ≠ g0) (hp : w.cell? ⟨S, 0, none⟩ = some (.pointer (some ⟨K, 0, none⟩))) (hkk : w.cell? ⟨K, 2, none⟩ = some (.int .i64 k))
    (hc : ∀ i t, i < 4 → t < 256 → w.cell? ⟨S, 1 + 256 * i + t, none⟩ = some (.int .i16 ((Ns i / 2 ^ (12 * t) % 4096 : Nat) : Int)))
    (hr : ∀ j, j < 32 → w.cell? ⟨S, 1025 + j, none⟩ = some (.int .u8 (rho.getD j 0))) :
    Calls Yba.prog 9 #[.pointer (some ⟨S, 0, none⟩), .slice (some ⟨g0, 0, none⟩) n cap0] w fun e w' => ∃ g cap, e = .returned (.slice (some ⟨g, 0, none⟩) (n + 384 * k + 32) cap) ∧
      w'.ownsRow B 5 1 (.slice (some ⟨g, 0, none⟩) (n + 384 * k + 32) cap) (n + 384 * k + 32) (xs ++ bytesV (packs Ns k ++ rho)) ∧ Grew w w' (.slice (some ⟨g0, 0, none⟩) n cap0) (.slice (some ⟨g, 0, none⟩) (n + 384 * k + 32) cap) := by
  have HC : Hid _ := hc
  have HR : Hid _ := hr
  clear hc hr
  go_enter Yba.func9, Yba.ntmps9
  go_wp2_with fail
  go_loopw [1, 5, 13] (fun v _ iv wr => ∃ i g cap : Nat, i ≤ k ∧ iv = .int .i64 i ∧ v = .slice (some ⟨g, 0, none⟩) (n + 384 * i) cap ∧
      wr.ownsRow B 5 1 (.slice (some ⟨g, 0, none⟩) (n + 384 * i) cap) (n + 384 * i) (xs ++ bytesV (packs Ns i)) ∧ Grew w wr (.slice (some ⟨g0, 0, none⟩) n cap0) (.slice (some ⟨g, 0, none⟩) (n + 384 * i) cap)) (fun _ _ iv _ => (k - intOf iv).toNat)
  case atStart => exact ⟨0, g0, cap0, by omega, rfl, rfl, by simpa [packs, bytesV] using hown, Grew.refl _ _⟩
  case round =>
    obtain ⟨i, g, cap, hi, rfl, rfl, hown1, hgrow1⟩ := hrel
    have hSg1 : g ≠ S := hgrow1.apart hS (by simp [Value.ownBlock]; omega)
    have hs1 := hgrow1.size
    by_cases h : i < k
    · have hci : ∀ t, t < 256 → wr.cell? ⟨S, 1 + i * 256 + t, none⟩ = some (.int .i16 ((Ns i / 2 ^ (12 * t) % 4096 : Nat) : Int)) := fun t ht => by
        rw [hgrow1.cell (p := ⟨S, 1 + i * 256 + t, none⟩) hS (by simp [Value.ownBlock]; omega), Nat.mul_comm i]
        exact HC.out i t (by omega) ht
      have HCI : Hid _ := hci
      clear hci
      go_wp2_with fail
      refine (ntt_any B _ g cap S _ (Ns i) _ wr hown1 (by omega) (by omega) (by omega) HCI.out).mono ?_
      rintro _ w2 ⟨g2, cap2, rfl, hown2, hgrow2⟩
      go_wp2_with fail
      go_roundw
      case rel =>
        refine ⟨i + 1, g2, cap2, by omega, by simp, rfl, ?_, hgrow1.trans hgrow2⟩
        rw [packs, bytesV_append, ← List.append_assoc]
        exact hown2
      case measure => simp [intOf]; omega
    · obtain rfl : i = k := by omega
      have hrc : ∀ j u, (bytesV rho)[j]? = some u → wr.cell? ((⟨S, 1025, none⟩ : Addr).add j) = some u := fun j u hj => by
        have hjl : j < rho.length := by
          have := (List.getElem?_eq_some_iff.1 hj).1
          rwa [length_bytesV] at this
        have e1 : (bytesV rho)[j]? = some (.int .u8 (rho.getD j 0)) := by simp [bytesV, List.getElem?_eq_getElem hjl]
        rw [e1] at hj
        cases hj
        rw [Go.WideShapes.add_plain, hgrow1.cell (p := ⟨S, 1025 + j, none⟩) hS (by simp [Value.ownBlock]; omega)]
        exact HR.out j (by omega)
      have HRC : Hid _ := hrc
      clear hrc
      go_wp2_with (at_builtin; go_must (refine wpList_app_row wr rfl _ _ 22 rfl B 5 Yba.underlying22 info5 g _ cap _ (by rfl) hown1 ⟨S, 1025, none⟩ 32 32 (bytesV rho) (by rfl) (by rw [length_bytesV, hrl]) HRC.out (ints_oneCell .u8 rho) (by omega) (by omega) (by omega) ?_); intro g2 cap2 w2 hown2 hgrow2)
      go_ret
      refine ⟨g2, cap2, rfl, ?_, hgrow1.trans hgrow2⟩
      rw [bytesV_append, ← List.append_assoc]
      exact hown2
end Go.Proofs.Ybulkdizg
