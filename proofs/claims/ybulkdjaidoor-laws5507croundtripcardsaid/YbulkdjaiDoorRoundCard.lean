/-
  THE ROW OF LawS5507CRoundTrip PROVED, AND ITS TIED CARD: the walk out of YbulkdjaiDoorRound; what the row lists is met by the heap that the door's own run leaves; the tie is the given one.
-/
import Derived.Test.YbulkdjaiDoorRows
import Derived.Test.YbulkdjaiDoorTie
import Derived.Test.YbulkdjaiDoorCards
import Derived.Test.YbulkdjaiDoorRound
import Derived.ProofKit
import Derived.LaidMore
import Derived.OpenShut
import Derived.Stop.Joined
import Derived.Stop.LaidErr
import Derived.SevenTiedAt
namespace Go.Proofs.YbulkdjaiDoor.roundTrip
open Go.ChangeShapes Go.WideShapes Go.ChangeAt Go.RowKit

theorem own : ownKnob Ybad.prog.godebug = none := by kernel_rfl
/-- The listed variable's name, as the row has it. -/
def errName : String := Rows.lawS5507CRoundTripSpec.vars.headD ""
theorem gErr : Ybad.prog.globalNamed errName = some 0 := by kernel_rfl
theorem tErr : (Ybad.prog.globals[0]?).map (·.type) = some 33 := by kernel_rfl

theorem door_met (os : Os) (args : Array Value) : laidMetH Ybad.prog Rows.lawS5507CRoundTripRow.laid ((World.doorLaid Ybad.prog 400 os).forCall (fun _ _ => 0) ⟨#[], args, []⟩).memory :=
  laidMetH_of_parts3 (fuel := 8) (laidMet_of_run' 8 (by kernel_rfl) (by kernel_rfl)) (by kernel_rfl) (by kernel_rfl)

set_option maxRecDepth 100000 in
theorem lifted (os : Os) (started : os.Started) (H : Type) (enc : TypeId × Value → H) :
    ReturnsInHanded {} Ybad.checked os 4 .any (fun w args => (Rows.lawS5507CRoundTripSpec.pre enc Ybad.prog Ybad.f4 [] false w args ∧ laidMetH Ybad.prog Rows.lawS5507CRoundTripRow.laid w) ∧ sizedMet enc Ybad.prog Ybad.f4 (OpenSpec.ofChange Rows.lawS5507CRoundTripSpec) false w args)
      (Rows.lawS5507CRoundTripSpec.post enc Ybad.prog Ybad.f4 false true false false) := by
  refine returnsInHanded_of_change_and (C := Ybad.checked) (X := fun w _ => laidMetH Ybad.prog Rows.lawS5507CRoundTripRow.laid w) (fun _ _ _ hh h => h.of_heap hh) own started (by kernel_rfl) Ybad.func4
    (ChangeSpec.witness_shaped (enc := enc) (C := Ybad.checked) (os := os) (X := fun w _ => laidMetH Ybad.prog Rows.lawS5507CRoundTripRow.laid w) false (World.doorLaid Ybad.prog 400 os) #[.int .u16 0, .int .u64 0, .int .u64 0, .bool false] 8 rfl (World.shaped_of_RefB (by kernel_rfl) (by kernel_rfl)) (by kernel_rfl) (by kernel_rfl) (by kernel_rfl) (door_met os _)) ?_
  intro W base args ds gs before hval0 hW _ _ _ _
  have hval : ∀ (j : Nat) t v, Ybad.f4.params[j]? = some t → args[j]? = some v → Value.okWide Ybad.prog W .any base t v := hval0
  have hW' := hW
  obtain ⟨p, q, hA0, hV0, rfl, hfz, hnd⟩ := hW
  have hA : DataW.TrodAll enc Ybad.prog W 0 (fun _ => true) true Ybad.f4.params.toList args.toList ds p := hA0
  have hV : DataW.TrodVars enc Ybad.prog W (fun _ => true) [errName] gs q := hV0
  rw [Ybad.params4] at hA hval
  obtain ⟨v0, v1, v2, v3, d0, d1, d2, d3, p0, p1, p2, p3, rfl, rfl, rfl, h0, h1, h2, h3⟩ := trodAll_four hA
  obtain ⟨a0, rfl, rfl, rfl, w0⟩ := open_int Ybad.underlying23 (hval 0 23 v0 rfl rfl) h0
  obtain ⟨a1, rfl, rfl, rfl, w1⟩ := open_int Ybad.underlying22 (hval 1 22 v1 rfl rfl) h1
  obtain ⟨a2, rfl, rfl, rfl, w2⟩ := open_int Ybad.underlying22 (hval 2 22 v2 rfl rfl) h2
  obtain ⟨a3, rfl, rfl, rfl⟩ := open_bool Ybad.underlying4 (hval 3 4 v3 rfl rfl) h3
  obtain ⟨g, t, cs, f, d, pv, rfl, hg, ht, hv, hd, rfl⟩ := trodVars_one hV
  obtain rfl := Option.some.inj (gErr.symm.trans hg)
  obtain rfl := Option.some.inj (tErr.symm.trans ht)
  obtain ⟨x, rfl, hx, rfl, rfl, hcx⟩ := token_of gErr Ybad.underlying33 hv hd
  have hpos : 0 < W.heap.size := block_lt_of_cell hcx
  have b0 := bounds_u16 w0
  have b1 := bounds_u64 w1
  have b2 := bounds_u64 w2
  clear hA0 hV0 hval0
  refine (round_any a0 a1 a2 a3 W (by omega) (by omega) (by omega) (by omega) (by omega) (by omega)).mono fun e W' ⟨he, bel⟩ => ?_
  subst he
  have hv' : W'.var? Ybad.prog errName = some #[x] := var?_below bel gErr hpos hv
  exact ⟨_, rfl, _, _, _, [], [], [.cell 0 0], hW', trodAll_mk1 (shut_bool Ybad.underlying4 _),
    trodAll_mk4 (shut_int Ybad.underlying23 w0) (shut_int Ybad.underlying22 w1) (shut_int Ybad.underlying22 w2) (shut_bool Ybad.underlying4 _),
    vars_read1 enc gErr tErr Ybad.underlying33 hv' hx _, bel.frame _, fun h => by cases h⟩

theorem row_holds : Rows.LawS5507CRoundTripSaid :=
  OpenClaim.holds_of_wide 4 Ybad.f4 rfl rfl rfl rfl rfl rfl rfl ⟨rfl, rfl, rfl, rfl, rfl⟩ rfl rfl rfl rfl rfl (by kernel_rfl) Ybad.func4 (by kernel_rfl)
    (of_decide_eq_true (by kernel_rfl)) (by unfold Func.isWrapper; first | (rw [if_pos (by decide +kernel)]; kernel_rfl) | (rw [if_neg (by decide +kernel)]; exact ⟨rfl, rfl⟩))
    (fun os started H enc _ => lifted os started H enc)

theorem card_holds : Rows.LawS5507CRoundTripCardSaid :=
  Claim7.holds_tied_plain_at .later [] [.sentinel] true (true, "3c8f9da9b6f0b9e7eb93922cd31268fd4fc576517a58b93c35540a9e711dc508") true
    row_holds (fun _ h => by cases h) (by kernel_rfl) (fun _ h => by cases h) lawS5507CRoundTrip_row_tie rfl ⟨rfl, rfl⟩ (by kernel_rfl) rfl
    (fun f fn hf hfn => by
      obtain rfl : f = 4 := Option.some.inj ((show Ybad.prog.funcNamed Rows.lawS5507CRoundTripRow.func = some 4 by kernel_rfl).symm.trans hf) |>.symm
      obtain rfl : fn = Ybad.f4 := (Option.some.inj (Ybad.func4.symm.trans hfn)).symm
      exact ⟨by kernel_rfl, fun j t ht => by
        rw [Ybad.params4] at ht
        have hm : t ∈ [23, 22, 22, 4] := by simpa using Array.mem_of_getElem? ht
        have hall : ([23, 22, 22, 4].all fun u => !Ybad.prog.wantsStandIn u) = true := by kernel_rfl
        exact (show Ybad.prog.wantsStandIn t = false by simpa using List.all_eq_true.1 hall t hm)⟩)
    (by kernel_rfl)
end Go.Proofs.YbulkdjaiDoor.roundTrip

namespace Go.Proofs.YbulkdjaiDoor
theorem lawS5507CRoundTrip_card : Rows.LawS5507CRoundTripCardSaid := roundTrip.card_holds
end Go.Proofs.YbulkdjaiDoor
