/-
  THE LAW's OWN WALK: LawS5507CRoundTrip out of the contracts of AppendSlotQuery and ParseSlotQuery.
-/
import Derived.Test.YbulkdjaiDoorParse
import Derived.WideLaws
import Derived.Laws.StructEq
namespace Go.Proofs.YbulkdjaiDoor
open Go.RowKit

/-- The cells of an owned row of bytes. -/
theorem row_cell {w : World} {B e g n cap : Nat} {l : List Int} (h : w.ownsRow B e 1 (.slice (some ⟨g, 0, none⟩) n cap) n (bytesV l)) (j : Nat) (hj : j < n) : w.cell? ⟨g, j, none⟩ = some (.int .u8 (l.getD j 0)) := by
  have hl : l.length = n := by have := h.1; simpa [bytesV] using this
  rw [h.cellAt j (by omega)]
  simp [bytesV, List.getElem?_eq_getElem (show j < l.length by omega)]

theorem row_cap {w : World} {B e g n cap : Nat} {xs : List Value} (h : w.ownsRow B e 1 (.slice (some ⟨g, 0, none⟩) n cap) n xs) : n ≤ cap := by
  rcases h.2 with ⟨h, _⟩ | ⟨g', cap', cur, hv, _, _, hc, _⟩
  · cases h
  · injection hv with _ _ e; omega

theorem query_cells {w : World} {B e g cap : Nat} {r ep sq p : Int} (h : w.ownsRow B e 1 (.slice (some ⟨g, 0, none⟩) 20 cap) 20 (bytesV ([6] ++ be r 2 ++ be ep 8 ++ be sq 8 ++ [p]))) :
    w.cell? ⟨g, 0, none⟩ = some (.int .u8 6) ∧ w.cell? ⟨g, 1, none⟩ = some (.int .u8 (byteOf r 1)) ∧ w.cell? ⟨g, 2, none⟩ = some (.int .u8 (byteOf r 0)) ∧
    (∀ j, j < 8 → w.cell? ⟨g, 3 + j, none⟩ = some (.int .u8 (byteOf ep (7 - j)))) ∧ (∀ j, j < 8 → w.cell? ⟨g, 11 + j, none⟩ = some (.int .u8 (byteOf sq (7 - j)))) ∧
    w.cell? ⟨g, 19, none⟩ = some (.int .u8 p) := by
  refine ⟨row_cell h 0 (by omega), row_cell h 1 (by omega), row_cell h 2 (by omega), fun j hj => ?_, fun j hj => ?_, row_cell h 19 (by omega)⟩
  · rcases (show j = 0 ∨ j = 1 ∨ j = 2 ∨ j = 3 ∨ j = 4 ∨ j = 5 ∨ j = 6 ∨ j = 7 by omega) with rfl | rfl | rfl | rfl | rfl | rfl | rfl | rfl <;> exact row_cell h _ (by omega)
  · rcases (show j = 0 ∨ j = 1 ∨ j = 2 ∨ j = 3 ∨ j = 4 ∨ j = 5 ∨ j = 6 ∨ j = 7 by omega) with rfl | rfl | rfl | rfl | rfl | rfl | rfl | rfl <;> exact row_cell h _ (by omega)

set_option maxHeartbeats 4000000 in
set_option maxRecDepth 100000 in
theorem round_any (r ep sq : Int) (p : Bool) (w : World)
    (hr0 : 0 ≤ r) (hr : r < 65536) (he0 : 0 ≤ ep) (he : ep < 18446744073709551616) (hs0 : 0 ≤ sq) (hs : sq < 18446744073709551616) :
    Calls Ybad.prog 4 #[.int .u16 r, .int .u64 ep, .int .u64 sq, .bool p] w fun e w' => e = .returned (.bool true) ∧ Below w.heap.size w w' := by
  go_enter Ybad.func4, Ybad.ntmps4
  go_wp2_with fail
  refine (query (w.heap.size + 1) 0 w.heap.size _ _ r ep sq p _ (World.ownsRow_nil _ _ _ _) (by simp) (by omega) (by simp) (by simp) (by simp) (by simp) (by simp) (by simp [Value.ownBlock]) hr0 hr he0 he hs0 hs).mono ?_
  rintro e w1 ⟨g, cap, rfl, hown, hgrow⟩
  have q0 := hgrow.cell (p := ⟨w.heap.size, 0, none⟩) (by simp) (by simp [Value.ownBlock])
  have q1 := hgrow.cell (p := ⟨w.heap.size, 1, none⟩) (by simp) (by simp [Value.ownBlock])
  have q2 := hgrow.cell (p := ⟨w.heap.size, 2, none⟩) (by simp) (by simp [Value.ownBlock])
  have q3 := hgrow.cell (p := ⟨w.heap.size, 3, none⟩) (by simp) (by simp [Value.ownBlock])
  simp only [go_sem] at q0 q1 q2 q3
  have hz : w.heap.size < w1.heap.size := by have := hgrow.size; simp at this; omega
  have hbel : Below w.heap.size w w1 := ((Below.refl _ _).alloc (Nat.le_refl _) _).trans ((hgrow.below (B := w.heap.size + 1) (by simp) (World.ownsRow_nil _ _ 5 1)).mono (by omega))
  have hg : g < w1.heap.size := (hown.lt g rfl).2
  have hcap := row_cap hown
  simp only [Nat.zero_add, List.nil_append] at hown hcap
  obtain ⟨c0, c1, c2, ce, cs, c19⟩ := query_cells hown
  clear hown hgrow
  have hp1 : (if p = true then 1 else 0 : Int) ≤ 1 := by split <;> decide
  go_wp2_with fail
  refine (parse_any g cap r ep sq _ _ hg hcap hp1 hr0 hr he0 he hs0 hs c0 c1 c2 ce cs c19).mono ?_
  rintro e w2 ⟨rfl, hb2⟩
  have s0 := (hb2.cell (p := ⟨w.heap.size, 0, none⟩) hz).trans q0
  have s1 := (hb2.cell (p := ⟨w.heap.size, 1, none⟩) hz).trans q1
  have s2 := (hb2.cell (p := ⟨w.heap.size, 2, none⟩) hz).trans q2
  have s3 := (hb2.cell (p := ⟨w.heap.size, 3, none⟩) hz).trans q3
  have hz2 : w.heap.size < w2.heap.size := by have := hb2.size; omega
  have hp : ((if p = true then 1 else 0 : Int) == 1) = p := by cases p <;> rfl
  rw [hp]
  clear c0 c1 c2 ce cs c19 q0 q1 q2 q3 hp hp1
  go_wp2_with fail
  go_ret
  exact ⟨rfl, (hbel.trans (hb2.mono (by omega))).alloc (by omega) _⟩
end Go.Proofs.YbulkdjaiDoor
