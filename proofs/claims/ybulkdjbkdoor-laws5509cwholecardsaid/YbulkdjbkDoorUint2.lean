/-
  strconv.AppendUint(dst, u, 10), u from 100 on; and at every u.
-/
import Derived.Test.YbulkdjbkDoorUint
namespace Go.Proofs.YbulkdjbkDoor
open Go.Shelf Go.RowKit Go.Sort Go.Lib

theorem byte_one (l : List UInt8) : ∀ u ∈ Lib.byteCells l, u.oneCell' = true := by
  intro u hu
  simp only [Lib.byteCells, List.mem_map] at hu
  obtain ⟨b, _, rfl⟩ := hu
  rfl

set_option maxHeartbeats 8000000 in
set_option maxRecDepth 100000 in
theorem uint_big (B n u g0 cap0 : Nat) (hu : 100 ≤ u) (hu64 : u < 18446744073709551616) (xs : List Value) (w : World) (hown : w.ownsRow B 5 1 (.slice (some ⟨g0, 0, none⟩) n cap0) n xs) (hB : B ≤ w.heap.size) (hn : n ≤ 1000000000)
    (htab : Lib.TabIs Ybad.prog w powName .u64 Lib.pow10Tab) :
    Calls Ybad.prog 13 #[.slice (some ⟨g0, 0, none⟩) n cap0, .int .u64 u, .int .i64 10] w fun e w' => ∃ g cap, e = .returned (.slice (some ⟨g, 0, none⟩) (n + (Lib.decDigits u).length) cap) ∧
      w'.ownsRow B 5 1 (.slice (some ⟨g, 0, none⟩) (n + (Lib.decDigits u).length) cap) (n + (Lib.decDigits u).length) (xs ++ Lib.byteCells (Lib.decDigits u)) ∧ Grew w w' (.slice (some ⟨g0, 0, none⟩) n cap0) (.slice (some ⟨g, 0, none⟩) (n + (Lib.decDigits u).length) cap) := by
  have hu1 : 1 ≤ u := by omega
  have hnd20 : Lib.nDigits u ≤ 20 := by have := Lib.numDigits_eq u hu1 hu64; split at this <;> omega
  have hnd1 := Lib.nDigits_pos u
  have hal : Ybad.prog.arrayLen 37 = 24 := by kernel_rfl
  have hsl : ∀ W, (Instr.sliceAt 37 (.pointer (some ⟨w.heap.size, 0, none⟩)) none (some (.int .i64 (Lib.nDigits u : Int))) none).run Ybad.prog W = .ok (.slice (some ⟨w.heap.size, 0, none⟩) (Lib.nDigits u) 24) W := fun W => by
    rw [run_sliceAt_array_h W 37 ⟨w.heap.size, 0, none⟩ (by simp [Program.arrayLen, Program.elem, Ybad.underlying37]) .i64 (Lib.nDigits u : Int) (by omega) (by rw [hal]; omega)]
    go_simp
  have hH0 := Lib.holds_zero0 w 37 (Lib.nDigits u) (by omega)
  have hfmt := format_any w.heap.size 0 24 u (Array.replicate (Lib.nDigits u) 0) (w.alloc (.cells Lib.zeros24 37)) hH0 (by rw [Array.size_replicate]; exact Lib.lt_pow_nDigits u) hu64 (by rw [Array.size_replicate]; omega)
  rw [Array.size_replicate] at hfmt
  have HH0 := Lib.hid hH0
  have iu : (100 : Int) ≤ (u : Int) := by omega
  clear hH0 hal
  rw [Lib.decDigits_length]
  have HL : Hid ((Lib.byteCells (Lib.decDigits u)).length = Lib.nDigits u) := by
    show _ = _
    rw [Lib.byteCells_length, Lib.decDigits_length]
  go_enter Ybad.func13, Ybad.ntmps13
  go_wp2_with (first
    | (go_at_call 15; refine (numDigits_any u hu1 hu64 _ (Lib.tabIs_alloc htab _)).mono ?_; rintro e w' ⟨rfl, rfl⟩))
  refine hfmt.mono ?_
  rintro e w' ⟨rfl, k, v', dk, rfl, hF⟩
  have hcells : ∀ j u', (Lib.byteCells (Lib.decDigits u))[j]? = some u' → ((putRow (fun (b : UInt8) => Value.int .u8 (b.toNat : Int)) (w.alloc (.cells Lib.zeros24 37)) w.heap.size 0 dk).drewN k).cell? ((⟨w.heap.size, 0, none⟩ : Addr).add j) = some u' := by
    intro j u' hj
    have hjl : j < (Lib.decDigits u).length := by
      have h5 := (List.getElem?_eq_some_iff.1 hj).1
      rwa [Lib.byteCells_length] at h5
    have e5 : (Lib.byteCells (Lib.decDigits u))[j]? = some (Value.int .u8 ((Lib.decDigits u)[j].toNat : Int)) := by simp [Lib.byteCells, hjl]
    rw [e5] at hj
    cases hj
    rw [Lib.row_is_numeral hF j hjl, Lib.add_plain, World.cell?_drewN]
    exact cell?_putRow (fun (b : UInt8) => Value.int .u8 (b.toNat : Int)) _ w.heap.size 0 _ dk HH0.out (by rw [hF.size, Array.size_replicate]) j (by rw [hF.size]; rw [Lib.decDigits_length] at hjl; exact hjl)
  obtain ⟨os, eo⟩ := Lib.fin_at w (.cells Lib.zeros24 37) dk k 0
  have hown2 : ((putRow (fun (b : UInt8) => Value.int .u8 (b.toNat : Int)) (w.alloc (.cells Lib.zeros24 37)) w.heap.size 0 dk).drewN k).ownsRow B 5 1 (.slice (some ⟨g0, 0, none⟩) n cap0) n xs := by rw [eo]; exact Lib.ownsRow_grow hown k os
  have hnx2 : Below w.heap.size w ((putRow (fun (b : UInt8) => Value.int .u8 (b.toNat : Int)) (w.alloc (.cells Lib.zeros24 37)) w.heap.size 0 dk).drewN k) := by rw [eo]; exact Lib.below_grow w.heap.size w (Nat.le_refl _) k os
  generalize (putRow (fun (b : UInt8) => Value.int .u8 (b.toNat : Int)) (w.alloc (.cells Lib.zeros24 37)) w.heap.size 0 dk).drewN k = W2 at hcells hown2 hnx2 ⊢
  have hsz2 := hnx2.size
  have G2 := Grew.ofBelow hnx2 (.slice (some ⟨g0, 0, none⟩) n cap0)
  clear eo HH0 hfmt htab hown hnx2 hF
  go_wp2_with (at_builtin; go_must (refine wpList_app_row W2 rfl _ _ 27 rfl B 5 Ybad.underlying27 info5 g0 n cap0 xs (by rfl) hown2 ⟨w.heap.size, 0, none⟩ (Lib.nDigits u) 24 (Lib.byteCells (Lib.decDigits u)) (by rfl) HL.out hcells (byte_one _) hnd1 (by omega) (by omega) ?_); intro g cap w3 hown3 hgrow3)
  go_ret
  exact ⟨g, cap, rfl, hown3, G2.trans hgrow3⟩

theorem uint_any (B n u g0 cap0 : Nat) (hu64 : u < 18446744073709551616) (xs : List Value) (w : World) (hown : w.ownsRow B 5 1 (.slice (some ⟨g0, 0, none⟩) n cap0) n xs) (hB : B ≤ w.heap.size) (hn : n ≤ 1000000000)
    (htab : Lib.TabIs Ybad.prog w powName .u64 Lib.pow10Tab) :
    Calls Ybad.prog 13 #[.slice (some ⟨g0, 0, none⟩) n cap0, .int .u64 u, .int .i64 10] w fun e w' => ∃ g cap, e = .returned (.slice (some ⟨g, 0, none⟩) (n + (Lib.decDigits u).length) cap) ∧
      w'.ownsRow B 5 1 (.slice (some ⟨g, 0, none⟩) (n + (Lib.decDigits u).length) cap) (n + (Lib.decDigits u).length) (xs ++ Lib.byteCells (Lib.decDigits u)) ∧ Grew w w' (.slice (some ⟨g0, 0, none⟩) n cap0) (.slice (some ⟨g, 0, none⟩) (n + (Lib.decDigits u).length) cap) := by
  by_cases hu : u < 100
  · exact uint_small B n u g0 cap0 hu xs w hown hB hn
  · exact uint_big B n u g0 cap0 (by omega) hu64 xs w hown hB hn htab
end Go.Proofs.YbulkdjbkDoor
