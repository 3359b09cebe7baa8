/-
  THE ROW OF LawS5509CWhole PROVED, AND ITS TIED CARD: the walk out of YbulkdjbkDoorLawC; the one table that is read (the powers of ten) out of the row's condition; the tie is the given one.
-/
import Derived.Test.YbulkdjbkDoorRows
import Derived.Test.YbulkdjbkDoorTie
import Derived.Test.YbulkdjbkDoorCards
import Derived.Test.YbulkdjbkDoorLawC
import Derived.ProofKit
import Derived.LaidMore
import Derived.OpenShut
import Derived.ChangeOld
import Derived.Below
import Derived.Lib.LaidTab
import Derived.Stop.LaidErr
import Derived.Stop.Joined
import Derived.SevenTiedAt
namespace Go.Proofs.YbulkdjbkDoor.lawC
open Go.ChangeShapes Go.WideShapes Go.ChangeAt Go.RowKit

theorem own : ownKnob Ybad.prog.godebug = none := by kernel_rfl
theorem laidOut : laidOutB Ybad.prog = true := by kernel_rfl
theorem gPow : Ybad.prog.globalNamed powName = some 1 := by kernel_rfl
theorem tPow : (Ybad.prog.globals[1]?).map (·.type) = some 45 := by kernel_rfl
theorem cells35 : Ybad.prog.cellsOf 35 = 1 := by kernel_rfl
theorem cells45 : Ybad.prog.cellsOf 45 = 20 := by kernel_rfl

theorem door_met (os : Os) (args : Array Value) : laidMetH Ybad.prog Rows.lawS5509CWholeRow.laid ((World.doorLaid Ybad.prog 400 os).forCall (fun _ _ => 0) ⟨#[], args, []⟩).memory :=
  laidMetH_of_parts3 (fuel := 8) (laidMet_of_run' 8 (by kernel_rfl) (by kernel_rfl)) (by kernel_rfl) (by kernel_rfl)

/-- What the condition gives: the third table on the list holds just the powers of ten. -/
theorem tab_of_laid {W : World} (h : laidMetH Ybad.prog Rows.lawS5509CWholeRow.laid W) : Lib.TabIs Ybad.prog W powName .u64 Lib.pow10Tab := by
  rw [MakeChecks.laidMetH_plain _ _ _ (by kernel_rfl)] at h
  have h2 := (laidMet.tail (laidMet.tail h))
  exact Lib.tabIs_of_head gPow tPow Ybad.underlying45 Ybad.underlying35 cells35 cells45 h2

theorem walk (a0 : Option Addr) (len0 cap0 : Nat) (z0 : List Int) (y x : Int) (W : World) (w0 : IsRow .u8 W a0 len0 cap0 z0) (w1 : (Lit.int .i64 y).wf = true) (w2 : (Lit.int .u8 x).wf = true)
    (hT : Lib.TabIs Ybad.prog W powName .u64 Lib.pow10Tab) :
    Calls Ybad.prog 4 #[.slice a0 len0 cap0, .int .i64 y, .int .u8 x] W fun e w' => e = .returned (.bool true) ∧ Below W.heap.size W w' := by
  have b1 := bounds_i64 w1
  have b2 := bounds_u8 w2
  by_cases hn : len0 ≤ 1048576
  · obtain ⟨T, hTT⟩ := oneText y (by omega) (by omega)
    obtain ⟨x, rfl⟩ := Int.eq_ofNat_of_zero_le b2.1
    have hpos : 1 < W.heap.size := block_lt_of_cell (hT.cell gPow 0 (by decide))
    exact law_any a0 len0 cap0 z0 y x W w0 hn (by omega) T hTT (fun W' hW => var?_below hW gPow hpos hT)
  · exact law_long a0 len0 cap0 y x W hn

set_option maxRecDepth 100000 in
theorem lifted (os : Os) (started : os.Started) (H : Type) (enc : TypeId × Value → H) :
    ReturnsInHanded {} Ybad.checked os 4 .any (fun w args => (Rows.lawS5509CWholeSpec.pre enc Ybad.prog Ybad.f4 [] false w args ∧ laidMetH Ybad.prog Rows.lawS5509CWholeRow.laid w) ∧ sizedMet enc Ybad.prog Ybad.f4 (OpenSpec.ofChange Rows.lawS5509CWholeSpec) false w args)
      (Rows.lawS5509CWholeSpec.post enc Ybad.prog Ybad.f4 false true false false) := by
  refine returnsInHanded_of_change_and (C := Ybad.checked) (X := fun w _ => laidMetH Ybad.prog Rows.lawS5509CWholeRow.laid w) (fun _ _ _ hh h => h.of_heap hh) own started (by kernel_rfl) Ybad.func4
    (ChangeSpec.witness_shaped (enc := enc) (C := Ybad.checked) (os := os) (X := fun w _ => laidMetH Ybad.prog Rows.lawS5509CWholeRow.laid w) false (World.doorLaid Ybad.prog 400 os) #[.slice none 0 0, .int .i64 0, .int .u8 0] 8 rfl (World.shaped_of_RefB (by kernel_rfl) (by kernel_rfl)) (by kernel_rfl) (by kernel_rfl) (by kernel_rfl) (door_met os _)) ?_
  intro W base args ds gs before hval0 hW _ _ hLaid _
  have hval : ∀ (j : Nat) t v, Ybad.f4.params[j]? = some t → args[j]? = some v → Value.okWide Ybad.prog W .any base t v := hval0
  have hW' := hW
  obtain ⟨p, q, hA0, hV, rfl, hfz, hnd⟩ := hW
  have hA : DataW.TrodAll enc Ybad.prog W 0 (fun _ => true) true Ybad.f4.params.toList args.toList ds p := hA0
  rw [Ybad.params4] at hA hval
  obtain ⟨v0, v1, v2, d0, d1, d2, p0, p1, p2, rfl, rfl, rfl, h0, h1, h2⟩ := trodAll_three hA
  obtain ⟨rfl, rfl⟩ := trodVars_none hV
  obtain ⟨a0, len0, cap0, rfl⟩ := okWide_slice Ybad.underlying27 (hval 0 27 v0 rfl rfl)
  have k0 := h0
  have lt0 : ∀ x ∈ p0, x.block < W.heap.size := by obtain ⟨m, hm⟩ := k0; exact DataW.trod_lt m _ _ _ hm
  obtain ⟨z0, w0⟩ : ∃ zs, IsRow .u8 W a0 len0 cap0 zs := by
    obtain ⟨fuel, hf⟩ := h0
    rcases open_ints Ybad.underlying27 Ybad.underlying5 (by kernel_rfl) hf with ⟨hcs, _⟩ | ⟨x, l, c, zs, hcs, _, hl, hm, hz, _, hcell, hwz⟩
    · simp [Value.cells] at hcs
      obtain ⟨rfl, rfl, rfl⟩ := hcs
      exact ⟨[], .inl ⟨rfl, rfl, rfl, rfl⟩⟩
    · simp [Value.cells] at hcs
      obtain ⟨rfl, rfl, rfl⟩ := hcs
      exact ⟨zs, .inr ⟨_, rfl, hl, hm, by simpa using hz, hcell, hwz⟩⟩
  obtain ⟨a1, rfl, rfl, rfl, w1⟩ := open_int Ybad.underlying2 (hval 1 2 v1 rfl rfl) h1
  obtain ⟨a2, rfl, rfl, rfl, w2⟩ := open_int Ybad.underlying5 (hval 2 5 v2 rfl rfl) h2
  clear hA0 hval0
  refine (walk a0 len0 cap0 z0 a1 a2 W w0 w1 w2 (tab_of_laid hLaid)).mono fun e W' ⟨he, bel⟩ => ?_
  subst he
  exact ⟨_, rfl, _, _, _, [], _, [], hW', trodAll_mk1 (shut_bool Ybad.underlying4 _),
    trodAll_mk3 (Below.trod laidOut (by kernel_rfl) (of_decide_eq_true (by kernel_rfl)) k0 bel lt0) (shut_int Ybad.underlying2 w1) (shut_int Ybad.underlying5 w2), rfl, bel.frame _, fun h => by cases h⟩

theorem row_holds : Rows.LawS5509CWholeSaid :=
  OpenClaim.holds_of_wide 4 Ybad.f4 rfl rfl rfl rfl rfl rfl rfl ⟨rfl, rfl, rfl, rfl, rfl⟩ rfl rfl rfl rfl rfl (by kernel_rfl) Ybad.func4 (by kernel_rfl)
    (of_decide_eq_true (by kernel_rfl)) (by unfold Func.isWrapper; first | (rw [if_pos (by decide +kernel)]; kernel_rfl) | (rw [if_neg (by decide +kernel)]; exact ⟨rfl, rfl⟩))
    (fun os started H enc _ => lifted os started H enc)

theorem card_holds : Rows.LawS5509CWholeCardSaid :=
  Claim7.holds_tied_plain_at .later [] [.data, .data, .data] true (true, "4ad5d9d4504069fb3970824c6c434f7a514db739dc604435ca93c3ff1b11deed") false
    row_holds (fun _ h => by cases h) (by kernel_rfl) (fun _ h => by cases h) lawS5509CWhole_row_tie rfl ⟨rfl, rfl⟩ (by kernel_rfl) rfl
    (fun f fn hf hfn => by
      obtain rfl : f = 4 := Option.some.inj ((show Ybad.prog.funcNamed Rows.lawS5509CWholeRow.func = some 4 by kernel_rfl).symm.trans hf) |>.symm
      obtain rfl : fn = Ybad.f4 := (Option.some.inj (Ybad.func4.symm.trans hfn)).symm
      exact ⟨by kernel_rfl, fun j t ht => by
        rw [Ybad.params4] at ht
        have hm : t ∈ [27, 2, 5] := by simpa using Array.mem_of_getElem? ht
        have hall : ([27, 2, 5].all fun u => !Ybad.prog.wantsStandIn u) = true := by kernel_rfl
        exact (show Ybad.prog.wantsStandIn t = false by simpa using List.all_eq_true.1 hall t hm)⟩)
    (by kernel_rfl)
end Go.Proofs.YbulkdjbkDoor.lawC

namespace Go.Proofs.YbulkdjbkDoor
theorem lawS5509CWhole_card : Rows.LawS5509CWholeCardSaid := lawC.card_holds
end Go.Proofs.YbulkdjbkDoor
