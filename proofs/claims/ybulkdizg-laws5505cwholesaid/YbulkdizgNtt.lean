/-
  encodeNTT12, walked over this dump.
-/
import Derived.Test.YbulkdizgEncode
import Derived.BigQuiet
import Derived.Lib.SmallJoins
namespace Go.Proofs.Ybulkdizg
open Go.RowKit

/-- A table of 256 zeros. -/
def z53 : Array Value := Array.replicate 256 (.int .u16 0)
theorem info53 : (Yba.prog.info? 53).map (fun i => i.zero) = some (some (.agg z53)) := by kernel_rfl
theorem zero53 (w : World) : (zeroValue 53).run Yba.prog w = .ok (.agg z53) w := by
  have h := info53
  cases hi : Yba.prog.info? 53 with
  | none => rw [hi] at h; cases h
  | some i =>
    rw [hi] at h
    simp only [Option.map_some, Option.some.injEq] at h
    simp [zeroValue, typeInfo, hi, h]

set_option maxRecDepth 100000 in
set_option maxHeartbeats 4000000 in
theorem ntt_any (B n g0 cap0 P q N : Nat) (xs : List Value) (w : World) (hown : w.ownsRow B 5 1 (.slice (some ⟨g0, 0, none⟩) n cap0) n xs) (_hB : B ≤ w.heap.size) (hn : n ≤ 100000000)
    (hP : P < w.heap.size) (hc : ∀ t, t < 256 → w.cell? ⟨P, q + t, none⟩ = some (.int .i16 ((N / 2 ^ (12 * t) % 4096 : Nat) : Int))) :
    Calls Yba.prog 11 #[.slice (some ⟨g0, 0, none⟩) n cap0, .pointer (some ⟨P, q, none⟩)] w fun e w' => ∃ g cap, e = .returned (.slice (some ⟨g, 0, none⟩) (n + 384) cap) ∧
      w'.ownsRow B 5 1 (.slice (some ⟨g, 0, none⟩) (n + 384) cap) (n + 384) (xs ++ bytesV (leB N 384)) ∧ Grew w w' (.slice (some ⟨g0, 0, none⟩) n cap0) (.slice (some ⟨g, 0, none⟩) (n + 384) cap) := by
  have HC : Hid _ := hc
  clear hc
  have hz := zero53 w
  go_enter Yba.func11, Yba.ntmps11
  go_wp2_with fail
  go_loopw [6, 7, 9] (fun _ _ iv wr => ∃ k : Nat, ∃ cs : Array Value, k ≤ 256 ∧ iv = .int .i64 k ∧ wr.heap[w.heap.size]? = some (.cells cs 53 (0, 0)) ∧ cs.size = 256 ∧ Below w.heap.size w wr ∧ ∀ t, t < k → cs[t]? = some (.int .u16 ((N / 2 ^ (12 * t) % 4096 : Nat) : Int))) (fun _ _ iv _ => (256 - intOf iv).toNat)
  case atStart => exact ⟨0, z53, by omega, rfl, heap_alloc_new w _, by simp [z53], (Below.refl _ _).alloc (Nat.le_refl _) _, by intro t ht; omega⟩
  case round =>
    obtain ⟨k, cs, hk, rfl, hrow, hsz, hbel, hcs⟩ := hrel
    by_cases h : k < 256
    · have hcell := HC.out k h
      rw [← hbel.cell (p := ⟨P, q + k, none⟩) hP] at hcell
      have hc4 : N / 2 ^ (12 * k) % 4096 < 4096 := Nat.mod_lt _ (by omega)
      obtain ⟨C, HCk⟩ : ∃ C, Hid (C = N / 2 ^ (12 * k) % 4096) := ⟨_, rfl⟩
      rw [← HCk.out] at hcell hc4
      have hfz := Joins.unfrozen_of_block hrow k
      have hold : wr.cell? ⟨w.heap.size, k, none⟩ = some cs[k] := by rw [cell_of_row wr w.heap.size k cs 53 (0, 0) hrow]; simp [hsz, h]
      have HCS : Hid _ := hcs
      clear hcs
      go_wp2_with fail
      go_quiet (fail)
      go_wp2_with fail
      go_roundw
      case rel =>
        refine ⟨k + 1, cs.setIfInBounds k (.int .u16 C), by omega, by simp, Joins.block_setCell (w := wr.drewN nq) hrow _, by simpa using hsz, (hbel.trans (Joins.below_draws _ _ _)).setCell (Nat.le_refl _) _, ?_⟩
        intro t ht
        rw [Array.getElem?_setIfInBounds]
        by_cases e : k = t
        · subst e
          rw [if_pos rfl, if_pos (by omega), HCk.out]
        · rw [if_neg e]
          exact HCS.out t (by omega)
      case measure => simp [intOf]; omega
    · obtain rfl : k = 256 := by omega
      have hg0 := hown.lt g0 rfl
      have hown2 := hown.kept (Grew.ofBelow hbel (.slice none 0 0)).by' (.inr (by simp [Value.ownBlock]))
      have hz2 : w.heap.size < wr.heap.size := (Array.getElem?_eq_some_iff.1 hrow).1
      have hcc : ∀ t, t < 256 → wr.cell? ⟨w.heap.size, t, none⟩ = some (.int .u16 ((N / 2 ^ (12 * t) % 4096 : Nat) : Int)) := fun t ht => by
        rw [Joins.cell_of_block hrow]; exact hcs t ht
      go_wp2_with fail
      refine (encode_any B n g0 cap0 w.heap.size N xs wr hown2 (by omega) hn hz2 (by omega) hcc).mono ?_
      rintro _ w2 ⟨g, cap, rfl, hown3, hgrow3⟩
      go_wp2_with fail
      go_ret
      exact ⟨g, cap, rfl, hown3, (Grew.ofBelow hbel _).trans hgrow3⟩
end Go.Proofs.Ybulkdizg
