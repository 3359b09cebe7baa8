/-
  ParseSlotQuery on the twenty bytes of a query, walked over this dump; the numbers that big-endian bytes spell.
-/
import Derived.Test.YbulkdjaiDoorRead
import Derived.WalkSmall
namespace Go.Proofs.YbulkdjaiDoor
open Go.RowKit

theorem byteOf_bd (x : Int) (i : Nat) : 0 ≤ byteOf x i ∧ byteOf x i < 256 := by unfold byteOf; omega

theorem num2 (x : Int) (h0 : 0 ≤ x) (h : x < 65536) : byteOf x 0 + byteOf x 1 * 256 = x := by
  simp [byteOf]; omega
theorem split256 (y : Int) : y % 256 + y / 256 * 256 = y := by omega
theorem div256 (x : Int) (k : Nat) : x / 256 ^ (k + 1) = x / 256 ^ k / 256 := by
  rw [Int.pow_succ, Int.ediv_ediv_of_nonneg (Int.pow_nonneg (by decide))]
theorem num8 (x : Int) (h0 : 0 ≤ x) (h : x < 18446744073709551616) :
    byteOf x 0 + byteOf x 1 * 256 + byteOf x 2 * 65536 + byteOf x 3 * 16777216 + byteOf x 4 * 4294967296 + byteOf x 5 * 1099511627776 + byteOf x 6 * 281474976710656 + byteOf x 7 * 72057594037927936 = x := by
  have e7 : x / 256 ^ 7 % 256 = x / 256 ^ 7 := by omega
  unfold byteOf
  rw [e7]
  have s0 := split256 x
  have s1 := split256 (x / 256 ^ 1)
  have s2 := split256 (x / 256 ^ 2)
  have s3 := split256 (x / 256 ^ 3)
  have s4 := split256 (x / 256 ^ 4)
  have s5 := split256 (x / 256 ^ 5)
  have s6 := split256 (x / 256 ^ 6)
  rw [← div256] at s1 s2 s3 s4 s5 s6
  have d1 : x / 256 ^ 1 = x / 256 := by simp
  have d0 : x / 256 ^ 0 = x := by simp
  rw [d0]
  rw [d1] at *
  generalize x / 256 = a1 at *
  generalize x / 256 ^ 2 = a2 at *
  generalize x / 256 ^ 3 = a3 at *
  generalize x / 256 ^ 4 = a4 at *
  generalize x / 256 ^ 5 = a5 at *
  generalize x / 256 ^ 6 = a6 at *
  generalize x / 256 ^ 7 = a7 at *
  omega

/-- Four cells of one block, stored one behind the other. -/
theorem four_cells (W : World) (b : Nat) (v0 v1 v2 v3 x0 x1 x2 x3 : Value) (h0 : W.cell? ⟨b, 0, none⟩ = some x0) (h1 : W.cell? ⟨b, 1, none⟩ = some x1) (h2 : W.cell? ⟨b, 2, none⟩ = some x2) (h3 : W.cell? ⟨b, 3, none⟩ = some x3) :
    ((((W.setCell ⟨b, 0, none⟩ v0).setCell ⟨b, 1, none⟩ v1).setCell ⟨b, 2, none⟩ v2).setCell ⟨b, 3, none⟩ v3).cell? ⟨b, 0, none⟩ = some v0 ∧
    ((((W.setCell ⟨b, 0, none⟩ v0).setCell ⟨b, 1, none⟩ v1).setCell ⟨b, 2, none⟩ v2).setCell ⟨b, 3, none⟩ v3).cell? ⟨b, 1, none⟩ = some v1 ∧
    ((((W.setCell ⟨b, 0, none⟩ v0).setCell ⟨b, 1, none⟩ v1).setCell ⟨b, 2, none⟩ v2).setCell ⟨b, 3, none⟩ v3).cell? ⟨b, 2, none⟩ = some v2 ∧
    ((((W.setCell ⟨b, 0, none⟩ v0).setCell ⟨b, 1, none⟩ v1).setCell ⟨b, 2, none⟩ v2).setCell ⟨b, 3, none⟩ v3).cell? ⟨b, 3, none⟩ = some v3 := by
  refine ⟨?_, ?_, ?_, ?_⟩ <;> simp [go_sem, h0, h1, h2, h3]

set_option maxHeartbeats 4000000 in
set_option maxRecDepth 100000 in
theorem parse_any (g cap : Nat) (r ep sq : Int) (p : Int) (w : World) (hg : g < w.heap.size) (hcap : 20 ≤ cap) (hp1 : p ≤ 1)
    (hr0 : 0 ≤ r) (hr : r < 65536) (he0 : 0 ≤ ep) (he : ep < 18446744073709551616) (hs0 : 0 ≤ sq) (hs : sq < 18446744073709551616)
    (c0 : w.cell? ⟨g, 0, none⟩ = some (.int .u8 6)) (c1 : w.cell? ⟨g, 1, none⟩ = some (.int .u8 (byteOf r 1))) (c2 : w.cell? ⟨g, 2, none⟩ = some (.int .u8 (byteOf r 0)))
    (ce : ∀ j, j < 8 → w.cell? ⟨g, 3 + j, none⟩ = some (.int .u8 (byteOf ep (7 - j)))) (cs : ∀ j, j < 8 → w.cell? ⟨g, 11 + j, none⟩ = some (.int .u8 (byteOf sq (7 - j))))
    (c19 : w.cell? ⟨g, 19, none⟩ = some (.int .u8 p)) :
    Calls Ybad.prog 13 #[.slice (some ⟨g, 0, none⟩) 20 cap] w fun e w' => e = .returned (.tuple #[.agg #[.int .u16 r, .int .u64 ep, .int .u64 sq, .bool (p == 1)], .nilIface]) ∧ Below w.heap.size w w' := by
  have i3 : (3 : Int) ≤ (cap : Int) := by omega
  have i11 : (11 : Int) ≤ (cap : Int) := by omega
  have i19 : (19 : Int) ≤ (cap : Int) := by omega
  have k1 : ¬ cap = 1 := by omega
  have k3 : ¬ cap = 3 := by omega
  have k11 : ¬ cap = 11 := by omega
  have hq : decide (1 < p) = false := by simp; omega
  go_enter Ybad.func13, Ybad.ntmps13
  go_wp2_with (first | (go_at_call 14; refine (kindOf_any g 0 20 cap 6 _ (by omega) (by first | exact c0 | exact cell_new _ _ c0)).mono ?_; rintro e w' ⟨rfl, rfl⟩))
  have tok : True := trivial
  have hne := World.new_ne w ⟨g, 19, none⟩ c19
  go_region_held3 (fun w' => w'.cell? ⟨g, 19, none⟩ = some (.int .u8 p)) (go_keep)
    (first
      | (go_at_call 16; refine (u16_any g 1 2 _ (byteOf r 1) (byteOf r 0) _ (by omega) (byteOf_bd _ _) (byteOf_bd _ _) (by exact (cell_new _ _ c1)) (by exact (cell_new _ _ c2))).mono ?_; rintro e w2 ⟨rfl, k2, rfl⟩)
      | (go_at_call 15; have _t := tok; refine (u64_any g 3 8 _ (byteOf ep 7) (byteOf ep 6) (byteOf ep 5) (byteOf ep 4) (byteOf ep 3) (byteOf ep 2) (byteOf ep 1) (byteOf ep 0) _ (by omega) (byteOf_bd _ _) (byteOf_bd _ _) (byteOf_bd _ _) (byteOf_bd _ _) (byteOf_bd _ _) (byteOf_bd _ _) (byteOf_bd _ _) (byteOf_bd _ _) (by exact (cell_new _ _ (cell_new _ _ (ce 0 (by omega))))) (by exact (cell_new _ _ (cell_new _ _ (ce 1 (by omega))))) (by exact (cell_new _ _ (cell_new _ _ (ce 2 (by omega))))) (by exact (cell_new _ _ (cell_new _ _ (ce 3 (by omega))))) (by exact (cell_new _ _ (cell_new _ _ (ce 4 (by omega))))) (by exact (cell_new _ _ (cell_new _ _ (ce 5 (by omega))))) (by exact (cell_new _ _ (cell_new _ _ (ce 6 (by omega))))) (by exact (cell_new _ _ (cell_new _ _ (ce 7 (by omega)))))).mono ?_; rintro e w3 ⟨rfl, k3, rfl⟩; clear tok)
      | (go_at_call 15; refine (u64_any g 11 8 _ (byteOf sq 7) (byteOf sq 6) (byteOf sq 5) (byteOf sq 4) (byteOf sq 3) (byteOf sq 2) (byteOf sq 1) (byteOf sq 0) _ (by omega) (byteOf_bd _ _) (byteOf_bd _ _) (byteOf_bd _ _) (byteOf_bd _ _) (byteOf_bd _ _) (byteOf_bd _ _) (byteOf_bd _ _) (byteOf_bd _ _) (by exact (cell_new _ _ (cell_new _ _ (cell_new _ _ (cs 0 (by omega)))))) (by exact (cell_new _ _ (cell_new _ _ (cell_new _ _ (cs 1 (by omega)))))) (by exact (cell_new _ _ (cell_new _ _ (cell_new _ _ (cs 2 (by omega)))))) (by exact (cell_new _ _ (cell_new _ _ (cell_new _ _ (cs 3 (by omega)))))) (by exact (cell_new _ _ (cell_new _ _ (cell_new _ _ (cs 4 (by omega)))))) (by exact (cell_new _ _ (cell_new _ _ (cell_new _ _ (cs 5 (by omega)))))) (by exact (cell_new _ _ (cell_new _ _ (cell_new _ _ (cs 6 (by omega)))))) (by exact (cell_new _ _ (cell_new _ _ (cell_new _ _ (cs 7 (by omega))))))).mono ?_; rintro e w4 ⟨rfl, k4, rfl⟩))
  go_wp2_with fail
  refine bodyPost_ret (v := .tuple #[.agg #[.int .u16 r, .int .u64 ep, .int .u64 sq, .bool (p == 1)], .nilIface]) ?_ rfl ⟨rfl, ?_⟩
  · rw [num2 r hr0 hr, num8 ep he0 he, num8 sq hs0 hs]
    obtain ⟨f0, f1, f2, f3⟩ := four_cells (((((((w.alloc (.cells #[.int .u16 0, .int .u64 0, .int .u64 0, .bool false] 44)).alloc (.cells #[] 53)).drewN (1 + k2)).alloc (.cells #[] 53)).drewN k3).alloc (.cells #[] 53)).drewN k4) w.heap.size
      (.int .u16 r) (.int .u64 ep) (.int .u64 sq) (.bool (p == 1)) (.int .u16 0) (.int .u64 0) (.int .u64 0) (.bool false) (by simp [go_sem]) (by simp [go_sem]) (by simp [go_sem]) (by simp [go_sem])
    simp [results, Ybad.results13, go_sem, f0, f1, f2, f3]
  · repeat (first | exact Below.refl _ _ | refine Below.setCell ?_ (by simp) _ | refine below_drewN ?_ _ | refine Below.drew ?_ | refine Below.alloc ?_ (by simp; try omega) _)
end Go.Proofs.YbulkdjaiDoor
