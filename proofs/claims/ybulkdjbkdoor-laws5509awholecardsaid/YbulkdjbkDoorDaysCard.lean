/-
  THE ROW OF LawS5509AWhole PROVED, AND ITS TIED CARD: the walk out of YbulkdjbkDoorDays; the table's cells out of the row's condition; the tie is the given one.
-/
import Derived.Test.YbulkdjbkDoorRows
import Derived.Test.YbulkdjbkDoorTie
import Derived.Test.YbulkdjbkDoorCards
import Derived.Test.YbulkdjbkDoorDays
import Derived.ProofKit
import Derived.LaidMore
import Derived.OpenShut
import Derived.Lib.LaidTab
import Derived.Stop.Joined
import Derived.SevenTiedAt
namespace Go.Proofs.YbulkdjbkDoor.lawA
open Go.ChangeShapes Go.WideShapes Go.ChangeAt Go.RowKit

theorem own : ownKnob Ybad.prog.godebug = none := by kernel_rfl
/-- The listed variable's name, as the row has it. -/
def tabName : String := Rows.lawS5509AWholeSpec.vars.headD ""
theorem gTab : Ybad.prog.globalNamed tabName = some 0 := by kernel_rfl
theorem tTab : (Ybad.prog.globals[0]?).map (·.type) = some 33 := by kernel_rfl
def days : List Int := [0, 31, 28, 31, 30, 31, 30, 31, 31, 30, 31, 30, 31]
def cells : Array Value := #[.int .u8 0, .int .u8 31, .int .u8 28, .int .u8 31, .int .u8 30, .int .u8 31, .int .u8 30, .int .u8 31, .int .u8 31, .int .u8 30, .int .u8 31, .int .u8 30, .int .u8 31]
theorem cells5 : Ybad.prog.cellsOf 5 = 1 := by kernel_rfl
theorem cells33 : Ybad.prog.cellsOf 33 = 13 := by kernel_rfl

theorem door_met (os : Os) (args : Array Value) : laidMetH Ybad.prog Rows.lawS5509AWholeRow.laid ((World.doorLaid Ybad.prog 400 os).forCall (fun _ _ => 0) ⟨#[], args, []⟩).memory :=
  laidMetH_of_parts3 (fuel := 8) (laidMet_of_run' 8 (by kernel_rfl) (by kernel_rfl)) (by kernel_rfl) (by kernel_rfl)

/-- What the condition gives: the variable holds just these numbers. -/
theorem tab_of_laid {W : World} (h : laidMetH Ybad.prog Rows.lawS5509AWholeRow.laid W) : Lib.TabIs Ybad.prog W tabName .u8 days := by
  rw [MakeChecks.laidMetH_plain _ _ _ (by kernel_rfl)] at h
  exact Lib.tabIs_of_head gTab tTab Ybad.underlying33 Ybad.underlying5 cells5 cells33 h

theorem reads_table {H : Type} (enc : TypeId × Value → H) (W : World) (sp : Nat → Bool) : DataW.trod enc Ybad.prog W 0 sp true 3 33 cells.toList = some (Rows.laid_example_com_epact_epact_commonMonthDays, []) := by kernel_rfl

set_option maxRecDepth 100000 in
theorem lifted (os : Os) (started : os.Started) (H : Type) (enc : TypeId × Value → H) :
    ReturnsInHanded {} Ybad.checked os 3 .any (fun w args => (Rows.lawS5509AWholeSpec.pre enc Ybad.prog Ybad.f3 [] false w args ∧ laidMetH Ybad.prog Rows.lawS5509AWholeRow.laid w) ∧ sizedMet enc Ybad.prog Ybad.f3 (OpenSpec.ofChange Rows.lawS5509AWholeSpec) false w args)
      (Rows.lawS5509AWholeSpec.post enc Ybad.prog Ybad.f3 false true false false) := by
  refine returnsInHanded_of_change_and (C := Ybad.checked) (X := fun w _ => laidMetH Ybad.prog Rows.lawS5509AWholeRow.laid w) (fun _ _ _ hh h => h.of_heap hh) own started (by kernel_rfl) Ybad.func3
    (ChangeSpec.witness_shaped (enc := enc) (C := Ybad.checked) (os := os) (X := fun w _ => laidMetH Ybad.prog Rows.lawS5509AWholeRow.laid w) false (World.doorLaid Ybad.prog 400 os) #[.int .i64 0, .int .i64 0, .int .u8 0] 8 rfl (World.shaped_of_RefB (by kernel_rfl) (by kernel_rfl)) (by kernel_rfl) (by kernel_rfl) (by kernel_rfl) (door_met os _)) ?_
  intro W base args ds gs before hval0 hW _ _ hL _
  have hval : ∀ (j : Nat) t v, Ybad.f3.params[j]? = some t → args[j]? = some v → Value.okWide Ybad.prog W .any base t v := hval0
  have hW' := hW
  obtain ⟨p, q, hA0, hV0, rfl, hfz, hnd⟩ := hW
  have hA : DataW.TrodAll enc Ybad.prog W 0 (fun _ => true) true Ybad.f3.params.toList args.toList ds p := hA0
  have hV : DataW.TrodVars enc Ybad.prog W (fun _ => true) [tabName] gs q := hV0
  rw [Ybad.params3] at hA hval
  obtain ⟨v0, v1, v2, d0, d1, d2, p0, p1, p2, rfl, rfl, rfl, h0, h1, h2⟩ := trodAll_three hA
  obtain ⟨a0, rfl, rfl, rfl, w0⟩ := open_int Ybad.underlying3 (hval 0 3 v0 rfl rfl) h0
  obtain ⟨a1, rfl, rfl, rfl, w1⟩ := open_int Ybad.underlying2 (hval 1 2 v1 rfl rfl) h1
  obtain ⟨a2, rfl, rfl, rfl, w2⟩ := open_int Ybad.underlying5 (hval 2 5 v2 rfl rfl) h2
  obtain ⟨g, t, cs, f, d, pv, rfl, hg, ht, hv, hd, rfl⟩ := trodVars_one hV
  obtain rfl := Option.some.inj (gTab.symm.trans hg)
  obtain rfl := Option.some.inj (tTab.symm.trans ht)
  have hT := tab_of_laid hL
  obtain rfl : cs = cells := Option.some.inj (hv.symm.trans hT)
  obtain ⟨rfl, rfl⟩ := DataW.Trod.unique (v := .agg cells) ⟨f, hd⟩ ⟨3, reads_table enc W _⟩
  have b2 := bounds_u8 w2
  clear hA0 hV0 hval0
  have hvars : ∀ sp : Nat → Bool, DataW.TrodVars enc Ybad.prog W sp [tabName] [Rows.laid_example_com_epact_epact_commonMonthDays] (MemPlace.row ⟨0, 0, none⟩ cells.size ++ [] ++ []) := fun sp =>
    ⟨0, 33, cells, 3, [], [], gTab, tTab, hv, reads_table enc W sp, rfl, rfl⟩
  refine (lawA_any a0 a1 a2 (by omega) (by omega) W (fun i hi => hT.cell gTab i hi)).mono fun e W' ⟨he, hw⟩ => ?_
  subst he; subst hw
  exact ⟨_, rfl, post_of_same (pa := []) hW' (fun _ _ _ => trodAll_mk1 (shut_bool Ybad.underlying4 _))
    (fun sp _ => trodAll_mk3 (shut_int Ybad.underlying3 w0) (shut_int Ybad.underlying2 w1) (shut_int Ybad.underlying5 w2)) (fun sp _ => hvars sp) (by simp)
    (World.keptBut_refl _ _) (fun _ => rfl) (ok_one (by kernel_rfl) rfl (okWide_bool_mk Ybad.underlying4 _))⟩

theorem row_holds : Rows.LawS5509AWholeSaid :=
  OpenClaim.holds_of_wide 3 Ybad.f3 rfl rfl rfl rfl rfl rfl rfl ⟨rfl, rfl, rfl, rfl, rfl⟩ rfl rfl rfl rfl rfl (by kernel_rfl) Ybad.func3 (by kernel_rfl)
    (of_decide_eq_true (by kernel_rfl)) (by unfold Func.isWrapper; first | (rw [if_pos (by decide +kernel)]; kernel_rfl) | (rw [if_neg (by decide +kernel)]; exact ⟨rfl, rfl⟩))
    (fun os started H enc _ => lifted os started H enc)

theorem card_holds : Rows.LawS5509AWholeCardSaid :=
  Claim7.holds_tied_plain_at .later [] [.wider] true (true, "4ad5d9d4504069fb3970824c6c434f7a514db739dc604435ca93c3ff1b11deed") false
    row_holds (fun _ h => by cases h) (by kernel_rfl) (fun _ h => by cases h) lawS5509AWhole_row_tie rfl ⟨rfl, rfl⟩ (by kernel_rfl) rfl
    (fun f fn hf hfn => by
      obtain rfl : f = 3 := Option.some.inj ((show Ybad.prog.funcNamed Rows.lawS5509AWholeRow.func = some 3 by kernel_rfl).symm.trans hf) |>.symm
      obtain rfl : fn = Ybad.f3 := (Option.some.inj (Ybad.func3.symm.trans hfn)).symm
      exact ⟨by kernel_rfl, fun j t ht => by
        rw [Ybad.params3] at ht
        have hm : t ∈ [3, 2, 5] := by simpa using Array.mem_of_getElem? ht
        have hall : ([3, 2, 5].all fun u => !Ybad.prog.wantsStandIn u) = true := by kernel_rfl
        exact (show Ybad.prog.wantsStandIn t = false by simpa using List.all_eq_true.1 hall t hm)⟩)
    (by kernel_rfl)
end Go.Proofs.YbulkdjbkDoor.lawA

namespace Go.Proofs.YbulkdjbkDoor
theorem lawS5509AWhole_card : Rows.LawS5509AWholeCardSaid := lawA.card_holds
end Go.Proofs.YbulkdjbkDoor
