/-
  THE LIBRARY's READERS Uint64, Uint16 (big endian) AND KindOf, walked over this dump, the bytes given as numbers.
-/
import Derived.Test.YbulkdjaiDoorQuery
import Derived.Lib.EndianBits
namespace Go.Proofs.YbulkdjaiDoor
open Go.RowKit

theorem cell_new (w : World) (o : Obj) {a : Addr} {v : Value} (h : w.cell? a = some v) : (w.alloc o).cell? a = some v := by
  rw [← h]; exact (Below.refl w.heap.size w |>.alloc (Nat.le_refl _) o).cell (block_lt_of_cell h)

set_option maxHeartbeats 4000000 in
set_option maxRecDepth 100000 in
theorem u64_any (g o n c : Nat) (b0 b1 b2 b3 b4 b5 b6 b7 : Int) (w : World) (hn : 8 ≤ n)
    (h0 : 0 ≤ b0 ∧ b0 < 256) (h1 : 0 ≤ b1 ∧ b1 < 256) (h2 : 0 ≤ b2 ∧ b2 < 256) (h3 : 0 ≤ b3 ∧ b3 < 256) (h4 : 0 ≤ b4 ∧ b4 < 256) (h5 : 0 ≤ b5 ∧ b5 < 256) (h6 : 0 ≤ b6 ∧ b6 < 256) (h7 : 0 ≤ b7 ∧ b7 < 256)
    (c0 : w.cell? ⟨g, o, none⟩ = some (.int .u8 b0)) (c1 : w.cell? ⟨g, o + 1, none⟩ = some (.int .u8 b1)) (c2 : w.cell? ⟨g, o + 2, none⟩ = some (.int .u8 b2)) (c3 : w.cell? ⟨g, o + 3, none⟩ = some (.int .u8 b3))
    (c4 : w.cell? ⟨g, o + 4, none⟩ = some (.int .u8 b4)) (c5 : w.cell? ⟨g, o + 5, none⟩ = some (.int .u8 b5)) (c6 : w.cell? ⟨g, o + 6, none⟩ = some (.int .u8 b6)) (c7 : w.cell? ⟨g, o + 7, none⟩ = some (.int .u8 b7)) :
    Calls Ybad.prog 15 #[.agg #[], .slice (some ⟨g, o, none⟩) n c] w fun e w' => e = .returned (.int .u64 (b7 + b6 * 256 + b5 * 65536 + b4 * 16777216 + b3 * 4294967296 + b2 * 1099511627776 + b1 * 281474976710656 + b0 * 72057594037927936)) ∧ ∃ k, w' = (w.alloc (.cells #[] 53)).drewN k := by
  have d0 := cell_new w (.cells #[] 53) c0
  have d1 := cell_new w (.cells #[] 53) c1
  have d2 := cell_new w (.cells #[] 53) c2
  have d3 := cell_new w (.cells #[] 53) c3
  have d4 := cell_new w (.cells #[] 53) c4
  have d5 := cell_new w (.cells #[] 53) c5
  have d6 := cell_new w (.cells #[] 53) c6
  have d7 := cell_new w (.cells #[] 53) c7
  clear c0 c1 c2 c3 c4 c5 c6 c7
  obtain ⟨h0a, h0b⟩ := h0; obtain ⟨h1a, h1b⟩ := h1; obtain ⟨h2a, h2b⟩ := h2; obtain ⟨h3a, h3b⟩ := h3
  obtain ⟨h4a, h4b⟩ := h4; obtain ⟨h5a, h5b⟩ := h5; obtain ⟨h6a, h6b⟩ := h6; obtain ⟨h7a, h7b⟩ := h7
  have q0 : 0 < n := by omega
  have q1 : (1 : Int) < (n : Int) := by omega
  have q2 : (2 : Int) < (n : Int) := by omega
  have q3 : (3 : Int) < (n : Int) := by omega
  have q4 : (4 : Int) < (n : Int) := by omega
  have q5 : (5 : Int) < (n : Int) := by omega
  have q6 : (6 : Int) < (n : Int) := by omega
  have q7 : (7 : Int) < (n : Int) := by omega
  go_enter Ybad.func15, Ybad.ntmps15
  go_wp2
  go_quiet (fail)
  go_wp2
  go_ret
  refine ⟨?_, _, rfl⟩
  simp (disch := omega) only [u64_or8, u64_or16, u64_or24, u64_or32, u64_or40, u64_or48, u64_or56]
  rfl

set_option maxHeartbeats 4000000 in
set_option maxRecDepth 100000 in
theorem u16_any (g o n c : Nat) (b0 b1 : Int) (w : World) (hn : 2 ≤ n) (h0 : 0 ≤ b0 ∧ b0 < 256) (h1 : 0 ≤ b1 ∧ b1 < 256)
    (c0 : w.cell? ⟨g, o, none⟩ = some (.int .u8 b0)) (c1 : w.cell? ⟨g, o + 1, none⟩ = some (.int .u8 b1)) :
    Calls Ybad.prog 16 #[.agg #[], .slice (some ⟨g, o, none⟩) n c] w fun e w' => e = .returned (.int .u16 (b1 + b0 * 256)) ∧ ∃ k, w' = (w.alloc (.cells #[] 53)).drewN k := by
  have d0 := cell_new w (.cells #[] 53) c0
  have d1 := cell_new w (.cells #[] 53) c1
  clear c0 c1
  obtain ⟨h0a, h0b⟩ := h0; obtain ⟨h1a, h1b⟩ := h1
  have q0 : 0 < n := by omega
  have q1 : (1 : Int) < (n : Int) := by omega
  go_enter Ybad.func16, Ybad.ntmps16
  go_wp2
  go_quiet (fail)
  go_wp2
  go_ret
  refine ⟨?_, _, rfl⟩
  simp (disch := omega) only [u16_or8]
  rfl

set_option maxHeartbeats 1000000 in
theorem kindOf_any (g o n c : Nat) (b0 : Int) (w : World) (hn : 0 < n) (c0 : w.cell? ⟨g, o, none⟩ = some (.int .u8 b0)) :
    Calls Ybad.prog 14 #[.slice (some ⟨g, o, none⟩) n c] w fun e w' => e = .returned (.int .u8 b0) ∧ w' = w := by
  have hz : ((n : Int) == 0) = false := by rw [beq_eq_false_iff_ne]; omega
  go_enter Ybad.func14, Ybad.ntmps14
  go_wp2
  go_ret
  exact ⟨rfl, rfl⟩
end Go.Proofs.YbulkdjaiDoor
