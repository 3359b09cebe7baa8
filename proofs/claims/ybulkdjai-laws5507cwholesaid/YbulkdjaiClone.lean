/-
  slices.Clone at bytes, walked over this dump: the copy is owned, what was there is left alone.
-/
import Derived.Test.YbulkdjaiQuery
import Derived.Maps.AppendAt
import Derived.Lib.SliceRun
namespace Go.Proofs.Ybulkdjai
open Go.RowKit

/-- The first cells of a slice that came in, as an append reads them. -/
theorem news_in {k : IntKind} {w : World} {x : Addr} {len cap : Nat} {zs : List Int} (hl : len ≤ cap) (hz : zs.length = cap) (hc : ∀ i, i < zs.length → w.cell? (x.add i) = some (.int k (zs.getD i 0))) :
    ∀ j u, ((zs.take len).map (Value.int k))[j]? = some u → w.cell? (x.add j) = some u := by
  intro j u hj
  simp only [List.getElem?_map, List.getElem?_take] at hj
  by_cases h : j < len
  · rw [if_pos h] at hj
    have hjz : j < zs.length := by omega
    rw [hc j hjz]
    rw [List.getElem?_eq_getElem hjz] at hj
    simp at hj
    simp [List.getD_eq_getElem?_getD, List.getElem?_eq_getElem hjz, hj]
  · rw [if_neg h] at hj; simp at hj

set_option maxHeartbeats 1000000 in
theorem clone (a0 : Option Addr) (len0 cap0 : Nat) (z0 : List Int) (w : World) (h0 : IsRow .u8 w a0 len0 cap0 z0) (hn : len0 ≤ 1048576) :
    Calls Yba.prog 4 #[.slice a0 len0 cap0] w fun e w' => ∃ v', e = .returned v' ∧ w'.ownsRow w.heap.size 5 1 v' len0 (bytesV (z0.take len0)) ∧ Below w.heap.size w w' := by
  have hnil := fun (W : World) => Lib.run_eql_slice_nil (P := Yba.prog) W 22 5 a0 len0 cap0 0 0 Yba.underlying22
  rcases h0 with ⟨rfl, rfl, rfl, rfl⟩ | ⟨x, rfl, hl, hm, hz, hc, hw⟩
  · go_enter Yba.func4, Yba.ntmps4
    go_wp2_with fail
    go_ret
    exact ⟨_, rfl, World.ownsRow_nil _ _ _ _, Below.refl _ _⟩
  · obtain ⟨i0, hi, hz0, hz1, hz2⟩ := info_parts info5
    have ho : (w.alloc (.cells #[] 5)).ownsRow w.heap.size 5 1 (.slice (some ⟨w.heap.size, 0, none⟩) 0 0) 0 [] :=
      World.ownsRow_made (base := w.heap.size) (e := 5) (size := 1) w #[] 0 (Nat.le_refl _) (by unfold maxLen; omega) rfl
    have hnews : ∀ j u, (bytesV (z0.take len0))[j]? = some u → (w.alloc (.cells #[] 5)).cell? (x.add j) = some u := by
      intro j u hj
      have h1 := news_in hl hz hc j u hj
      rw [← h1]
      exact (Below.refl w.heap.size w |>.alloc (Nat.le_refl _) _).cell (block_lt_of_cell h1)
    go_enter Yba.func4, Yba.ntmps4
    go_wp2_with (at_builtin; go_must (refine wpList_append_own_at _ rfl _ _ 22 rfl w.heap.size 5 i0 (.int .u8 0) 1 1 Yba.underlying22 hi hz0 hz1 hz2 rfl (by decide) _ 0 [] (by rfl) ho x len0 cap0 (bytesV (z0.take len0)) (by rfl) (by simp [bytesV]; omega) hnews (one_of_bytes _) (by unfold maxLen; omega) (by omega) (by simp) ?_); intro v' w1 hown1 hgrow1 _ hat)
    go_ret
    exact ⟨_, rfl, by simpa using hown1, ((Below.refl _ _).alloc (Nat.le_refl _) _).grown hgrow1 (by simp) (by intro k hk; simp [Value.ownBlock] at hk; omega)⟩
end Go.Proofs.Ybulkdjai
