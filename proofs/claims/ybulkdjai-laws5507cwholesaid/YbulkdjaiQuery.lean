/-
  AppendSlotQuery, walked over this dump: what it appends, and that the query is left alone.
-/
import Derived.Test.YbulkdjaiApp

namespace Go.Proofs.Ybulkdjai
open Go.RowKit

set_option maxHeartbeats 2000000 in
theorem query (B n qb : Nat) (v : Value) (xs : List Value) (r ep sq : Int) (p : Bool) (w : World) (hown : w.ownsRow B 5 1 v n xs) (hB : B ≤ w.heap.size) (hn : n ≤ 10000000)
    (c0 : w.cell? ⟨qb, 0, none⟩ = some (.int .u16 r)) (c1 : w.cell? ⟨qb, 1, none⟩ = some (.int .u64 ep)) (c2 : w.cell? ⟨qb, 2, none⟩ = some (.int .u64 sq)) (c3 : w.cell? ⟨qb, 3, none⟩ = some (.bool p))
    (hq : qb < w.heap.size) (hne : v.ownBlock ≠ some qb) (hr0 : 0 ≤ r) (hr : r < 65536) (he0 : 0 ≤ ep) (he : ep < 18446744073709551616) (hs0 : 0 ≤ sq) (hs : sq < 18446744073709551616) :
    Calls Yba.prog 5 #[v, .pointer (some ⟨qb, 0, none⟩)] w fun e w' => ∃ g cap, e = .returned (.slice (some ⟨g, 0, none⟩) (n + 20) cap) ∧
      w'.ownsRow B 5 1 (.slice (some ⟨g, 0, none⟩) (n + 20) cap) (n + 20) (xs ++ bytesV ([6] ++ be r 2 ++ be ep 8 ++ be sq 8 ++ [if p then 1 else 0])) ∧ Grew w w' v (.slice (some ⟨g, 0, none⟩) (n + 20) cap) := by
  go_enter Yba.func5, Yba.ntmps5
  go_wp2_with (at_builtin; go_must (refine wpList_app w rfl _ _ 22 rfl 5 Yba.underlying22 info5 B _ n _ (by rfl) hown w.heap.size rfl 1 _ (by rfl) (by rfl) (by simp [Value.oneCell']) (by omega) (by omega) (by omega) ?_); intro g1 cap1 w1 hown1 hgrow1)
  have d0 := (hgrow1.cell (p := ⟨qb, 0, none⟩) hq hne).trans c0
  have d1 := (hgrow1.cell (p := ⟨qb, 1, none⟩) hq hne).trans c1
  have d2 := (hgrow1.cell (p := ⟨qb, 2, none⟩) hq hne).trans c2
  have d3 := (hgrow1.cell (p := ⟨qb, 3, none⟩) hq hne).trans c3
  have z1 : qb < w1.heap.size := by have := hgrow1.size; omega
  have b1 : B ≤ w1.heap.size := by have := hgrow1.size; omega
  have n1 : g1 ≠ qb := hgrow1.apart hq hne
  go_region_held3 (fun w' => w'.cell? ⟨qb, 0, none⟩ = some (.int .u16 r)) (go_keep) (first | (go_at_call 7; refine (app16 B (n + 1) _ _ r _ hown1.drew b1 (by omega) hr0 hr).mono ?_; rintro e w2 ⟨g2, cap2, rfl, hown2, hgrow2⟩; have f0 := (hgrow2.cell (p := ⟨qb, 0, none⟩) z1 (by simpa [Value.ownBlock] using n1)).trans d0))
  have G2 := hgrow1.trans hgrow2.ofDrew
  have z2 : qb < w2.heap.size := by have := G2.size; omega
  have b2 : B ≤ w2.heap.size := by have := G2.size; omega
  have n2 : g2 ≠ qb := G2.apart hq hne
  have e1 := (G2.cell (p := ⟨qb, 1, none⟩) hq hne).trans c1
  have e2 := (G2.cell (p := ⟨qb, 2, none⟩) hq hne).trans c2
  have e3 := (G2.cell (p := ⟨qb, 3, none⟩) hq hne).trans c3
  clear hgrow2 hown1 hgrow1 d0 d1 d2 d3
  go_wp2_with fail
  go_region_held3 (fun w' => w'.cell? ⟨qb, 1, none⟩ = some (.int .u64 ep)) (go_keep) (first | (go_at_call 8; refine (app64 B (n + 3) _ _ ep _ hown2.drew b2 (by omega) he0 he).mono ?_; rintro e w3 ⟨g3, cap3, rfl, hown3, hgrow3⟩; have f1 := (hgrow3.cell (p := ⟨qb, 1, none⟩) z2 (by simpa [Value.ownBlock] using n2)).trans e1))
  have G3 := G2.trans hgrow3.ofDrew
  have z3 : qb < w3.heap.size := by have := G3.size; omega
  have b3 : B ≤ w3.heap.size := by have := G3.size; omega
  have n3 : g3 ≠ qb := G3.apart hq hne
  have k2 := (G3.cell (p := ⟨qb, 2, none⟩) hq hne).trans c2
  have k3 := (G3.cell (p := ⟨qb, 3, none⟩) hq hne).trans c3
  clear hgrow3 hown2 G2 e1 e2 e3 f1
  go_wp2_with fail
  go_region_held3 (fun w' => w'.cell? ⟨qb, 2, none⟩ = some (.int .u64 sq)) (go_keep) (first | (go_at_call 8; refine (app64 B (n + 11) _ _ sq _ hown3.drew b3 (by omega) hs0 hs).mono ?_; rintro e w4 ⟨g4, cap4, rfl, hown4, hgrow4⟩; have f2 := (hgrow4.cell (p := ⟨qb, 2, none⟩) z3 (by simpa [Value.ownBlock] using n3)).trans k2))
  have G4 := G3.trans hgrow4.ofDrew
  have b4 : B ≤ w4.heap.size := by have := G4.size; omega
  have l3 := (G4.cell (p := ⟨qb, 3, none⟩) hq hne).trans c3
  clear hgrow4 hown3 G3 k2 k3 f2
  cases p
  all_goals
    go_wp2_with (at_builtin; go_must (refine wpList_app w4 rfl _ _ 22 rfl 5 Yba.underlying22 info5 B _ (n + 19) _ (by rfl) hown4 w4.heap.size rfl 1 _ (by rfl) (by rfl) (by simp [Value.oneCell']) (by omega) (by omega) (by omega) ?_); intro g5 cap5 w5 hown5 hgrow5)
    go_ret
    exact ⟨g5, cap5, rfl, by simpa [bytesV] using hown5, G4.trans hgrow5⟩
end Go.Proofs.Ybulkdjai
