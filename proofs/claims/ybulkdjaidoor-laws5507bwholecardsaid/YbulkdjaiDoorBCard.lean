/-
  THE ROW OF LawS5507BWhole PROVED, AND ITS TIED CARD: the walk out of YbulkdjaiDoorBLaw; what the row lists is met by the heap that the door's own run leaves; the tie is the given one.
-/
import Derived.Test.YbulkdjaiDoorRows
import Derived.Test.YbulkdjaiDoorTie
import Derived.Test.YbulkdjaiDoorCards
import Derived.Test.YbulkdjaiDoorBLaw
import Derived.ProofKit
import Derived.LaidMore
import Derived.OpenShut
import Derived.Stop.Joined
import Derived.Stop.LaidErr
import Derived.LaidLaws
import Derived.LaidEql
import Derived.SizedLaws
import Derived.Deep.Matrix
import Derived.SevenTiedAt
namespace Go.Proofs.YbulkdjaiDoor.whole
open Go.ChangeShapes Go.WideShapes Go.ChangeAt Go.RowKit Go.Proofs.YbulkdjaiDoor.B

theorem own : ownKnob Ybad.prog.godebug = none := by kernel_rfl
theorem laidOut : laidOutB Ybad.prog = true := by kernel_rfl
/-- The listed variable's name, as the row has it. -/
def errName : String := Rows.lawS5507BWholeSpec.vars.headD ""
theorem gErr : Ybad.prog.globalNamed errName = some 0 := by kernel_rfl
theorem tErr : (Ybad.prog.globals[0]?).map (·.type) = some 33 := by kernel_rfl
theorem bytes5 : Ybad.prog.bytesOf 5 = 1 := by kernel_rfl
theorem bytes25 : Ybad.prog.bytesOf 25 = 24 := by kernel_rfl

/-- The dynamic type's name of what is listed, as the row has it. -/
def nameIn : DataW Unit → String
  | .iface n _ => n
  | _ => ""
def tyName : String := nameIn Rows.laid_example_com_orderwire_orderwire_internal_wire_ErrMalformed
theorem row63 (u : TypeId) (h : Ybad.prog.typeName? 3 u = some tyName) : u = 63 :=
  typeName_ptr_named (nm := "errors.errorString") (by kernel_rfl) (by kernel_rfl) (by decide) u (h.trans (congrArg some (by kernel_rfl)))

theorem eqE (a : Addr) (W : World) : (binOp .eql 33 (.iface 63 (.pointer (some a))) (.iface 63 (.pointer (some a)))).run Ybad.prog W = .ok (.bool true) W := by
  obtain ⟨i, hi⟩ : ∃ i, Ybad.prog.info? 63 = some i := ⟨_, rfl⟩
  obtain ⟨j, hj⟩ : ∃ j, Ybad.prog.info? 81 = some j := ⟨_, rfl⟩
  refine run_eql_iface_ptr_same W a Ybad.underlying33 Ybad.underlying63 hi ?_ hj
  have : (Ybad.prog.info? 63).map (·.comparable) = some true := by kernel_rfl
  rw [hi] at this
  exact Option.some.inj this

theorem door_met (os : Os) (args : Array Value) : laidMetH Ybad.prog Rows.lawS5507BWholeRow.laid ((World.doorLaid Ybad.prog 400 os).forCall (fun _ _ => 0) ⟨#[], args, []⟩).memory :=
  laidMetH_of_parts3 (fuel := 8) (laidMet_of_run' 8 (by kernel_rfl) (by kernel_rfl)) (by kernel_rfl) (by kernel_rfl)

theorem laid_err {W : World} (h : laidMetH Ybad.prog Rows.lawS5507BWholeRow.laid W) : ∃ a, W.var? Ybad.prog errName = some #[.iface 63 (.pointer (some a))] := by
  have hL : laidMet Ybad.prog Rows.lawS5507BWholeRow.laid W := h
  obtain ⟨a, s, hv, _⟩ := laid_sentinel hL gErr tErr Ybad.underlying33 row63 Ybad.underlying63 Ybad.underlying81 rfl rfl Ybad.underlying9 (by kernel_rfl) (by kernel_rfl)
  exact ⟨a, hv⟩

theorem wf_byt {zs : List Int} (h : ∀ n ∈ zs, (Lit.int .u8 n).wf = true) : Byt zs := fun v hv => by
  have := bounds_u8 (h v hv)
  omega
theorem take_getD (l : List Int) (k j : Nat) (hj : j < k) : (l.take k).getD j 0 = l.getD j 0 := by
  rw [List.getD_eq_getElem?_getD, List.getElem?_take, if_pos hj, List.getD_eq_getElem?_getD]
theorem byt_take {l : List Int} (h : Byt l) (k : Nat) : Byt (l.take k) := fun v hv => h v (List.mem_of_mem_take hv)

section
variable {H : Type} {enc : TypeId × Value → H} {W : World}

/-- A []byte that came in. -/
theorem open_bytes {a : Option Addr} {len cap : Nat} {d : DataW H} {p : List MemPlace} (h : DataW.Trod enc Ybad.prog W 0 (fun _ => true) true 25 (.slice a len cap) d p) :
    ∃ f : List Int, f.length = len ∧ Byt f ∧ BytesIn W a len f ∧ ((∀ n ∈ d.weights Ybad.prog 25, n ≤ reachBytes) → len ≤ 140737488355328) := by
  obtain ⟨fuel, hf⟩ := h
  rcases open_ints Ybad.underlying25 Ybad.underlying5 (by kernel_rfl) hf with ⟨hcs, _⟩ | ⟨x, l, c, zs, hcs, _, hl, hm, hz, hx, hcell, hwz⟩
  · simp [Value.cells] at hcs
    obtain ⟨rfl, rfl, rfl⟩ := hcs
    exact ⟨[], rfl, fun _ hv => absurd hv (by simp), fun hp => absurd hp (by omega), fun _ => by omega⟩
  · simp [Value.cells] at hcs
    obtain ⟨rfl, rfl, rfl⟩ := hcs
    have hz' : zs.length = cap := by simpa using hz
    simp only [Prod.mk.injEq] at hx
    refine ⟨zs.take len, by rw [List.length_take]; omega, byt_take (wf_byt hwz) _, fun hp => ?_, fun hw => ?_⟩
    · obtain ⟨b, o, rfl, hc⟩ := ints_at hcell (by omega)
      exact ⟨b, o, rfl, fun i hi => by rw [hc i (by omega), take_getD zs len i hi]⟩
    · have := hw ((zs.take len).length + (zs.drop len).length) (by rw [hx.1]; simp [DataW.weights, Ybad.underlying25, lits, bytes5])
      have hr := reachBytes_lt
      rw [List.length_take, List.length_drop] at this
      omega

theorem mem_weightsAll {P : Program} {e : TypeId} : ∀ {l : List (DataW H)} {d : DataW H}, d ∈ l → ∀ n ∈ d.weights P e, n ∈ DataW.weightsAll P e l
  | [], _, hd, _, _ => absurd hd (by simp)
  | x :: r, d, hd, n, hn => by
    simp only [DataW.weightsAll, List.mem_append]
    rcases List.mem_cons.1 hd with rfl | h
    · exact .inl hn
    · exact .inr (mem_weightsAll h n hn)

/-- A [][]byte that came in. -/
theorem open_items {a : Option Addr} {len cap : Nat} {d : DataW H} {p : List MemPlace} (h : DataW.Trod enc Ybad.prog W 0 (fun _ => true) true 26 (.slice a len cap) d p) :
    ∃ (A : Nat → Option Addr) (Ln Cp : Nat → Nat) (Bs : Nat → List Int), Items W a len A Ln Cp Bs ∧ ((∀ n ∈ d.weights Ybad.prog 26, n ≤ reachBytes) → len ≤ 140737488355328 ∧ ∀ j, j < len → Ln j ≤ 140737488355328) := by
  obtain ⟨fuel, hf⟩ := h
  have hrb := reachBytes_lt
  rcases Deep.open_int_rows Ybad.underlying26 Ybad.underlying25 Ybad.underlying5 (by kernel_rfl) (by kernel_rfl) hf with ⟨hcs, _⟩ | ⟨x, l, c, A, L, C, Z, hcs, _, hl, hm, hx, hrows⟩
  · simp [Value.cells] at hcs
    obtain ⟨rfl, rfl, rfl⟩ := hcs
    exact ⟨fun _ => none, fun _ => 0, fun _ => 0, fun _ => [], ⟨fun hp => absurd hp (by omega), fun _ h => absurd h (by omega), fun _ h => absurd h (by omega), fun _ h => absurd h (by omega), fun _ h => absurd h (by omega)⟩, fun _ => ⟨by omega, fun _ h => absurd h (by omega)⟩⟩
  · simp [Value.cells] at hcs
    obtain ⟨rfl, rfl, rfl⟩ := hcs
    simp only [Prod.mk.injEq] at hx
    refine ⟨A, L, C, fun r => (Z r).take (L r), ⟨fun hp => ?_, fun j hj => ?_, fun j hj => ?_, fun j hj => ?_, fun j hj => ?_⟩, fun hw => ⟨?_, fun j hj => ?_⟩⟩
    · obtain ⟨b, off, spot⟩ := x
      have hspot : spot = none := by simpa [Addr.add] using World.cell?_spot (hrows 0 (by omega)).1
      subst hspot
      exact ⟨b, off, rfl, fun j hj => by rw [← Go.WideShapes.add_plain]; exact (hrows j (by omega)).1⟩
    · obtain ⟨_, h1, _, h2, _⟩ := hrows j (by omega)
      rw [List.length_take]; omega
    · obtain ⟨_, _, _, _, h2, _⟩ := hrows j (by omega)
      exact byt_take (wf_byt h2) _
    · exact (hrows j (by omega)).2.1
    · obtain ⟨_, h1, _, h2, _, h3, h4⟩ := hrows j (by omega)
      intro hp
      cases hA : A j with
      | none => have := h3 hA; omega
      | some a' =>
        obtain ⟨_, h5⟩ := h4 a' hA
        obtain ⟨b, o, rfl, hc⟩ := ints_at (zs := Z j) (fun i hi => h5 i (by omega)) (by omega)
        exact ⟨b, o, rfl, fun i hi => by rw [hc i (by omega), take_getD (Z j) (L j) i hi]⟩
    · have := hw ((len + (cap - len)) * 24) (by rw [hx.1]; simp [DataW.weights, Ybad.underlying26, bytes25])
      omega
    · obtain ⟨_, h1, _, h2, _, h3, h4⟩ := hrows j (by omega)
      cases hA : A j with
      | none => have := h3 hA; omega
      | some a' =>
        have := hw ((Z j).length) (by
          rw [hx.1]
          simp only [DataW.weights, Ybad.underlying26, List.mem_cons, List.mem_append]
          refine .inr (.inl (mem_weightsAll (d := Deep.intRow .u8 (A j) (L j) (Z j)) (List.mem_map.2 ⟨j, List.mem_range.2 hj, rfl⟩) _ ?_))
          rw [hA]
          simp [Deep.intRow, DataW.weights, Ybad.underlying25, lits, bytes5]
          omega)
        omega
end

set_option maxRecDepth 100000 in
theorem lifted (os : Os) (started : os.Started) (H : Type) (enc : TypeId × Value → H) :
    ReturnsInHanded {} Ybad.checked os 3 .any (fun w args => (Rows.lawS5507BWholeSpec.pre enc Ybad.prog Ybad.f3 [] false w args ∧ laidMetH Ybad.prog Rows.lawS5507BWholeRow.laid w) ∧ sizedMet enc Ybad.prog Ybad.f3 (OpenSpec.ofChange Rows.lawS5507BWholeSpec) false w args)
      (Rows.lawS5507BWholeSpec.post enc Ybad.prog Ybad.f3 false true false false) := by
  refine returnsInHanded_of_change_and (C := Ybad.checked) (X := fun w _ => laidMetH Ybad.prog Rows.lawS5507BWholeRow.laid w) (fun _ _ _ hh h => h.of_heap hh) own started (by kernel_rfl) Ybad.func3
    (ChangeSpec.witness_shaped (enc := enc) (C := Ybad.checked) (os := os) (X := fun w _ => laidMetH Ybad.prog Rows.lawS5507BWholeRow.laid w) false (World.doorLaid Ybad.prog 400 os) #[.int .u8 0, .int .u64 0, .int .u64 0, .int .u16 0, .int .u64 0, .int .u64 0, .int .u32 0, .int .u32 0, .slice none 0 0, .slice none 0 0, .slice none 0 0, .int .u16 0] 8 rfl (World.shaped_of_RefB (by kernel_rfl) (by kernel_rfl)) (by kernel_rfl) (by kernel_rfl) (by kernel_rfl) (door_met os _)) ?_
  intro W base args ds gs before hval0 hW _ hsz0 hX _
  have hsz : (DataW.weightsEach Ybad.prog (Ybad.f3.params.toList ++ Rows.lawS5507BWholeSpec.plain.varTypes Ybad.prog) (ds ++ gs)).all (· ≤ reachBytes) = true := hsz0
  have hval : ∀ (j : Nat) t v, Ybad.f3.params[j]? = some t → args[j]? = some v → Value.okWide Ybad.prog W .any base t v := hval0
  have hW' := hW
  obtain ⟨p, q, hA0, hV0, rfl, hfz, hnd⟩ := hW
  have hA : DataW.TrodAll enc Ybad.prog W 0 (fun _ => true) true Ybad.f3.params.toList args.toList ds p := hA0
  have hV : DataW.TrodVars enc Ybad.prog W (fun _ => true) [errName] gs q := hV0
  rw [Ybad.params3] at hA hval hsz
  obtain ⟨v0, vs0, d0, ds0, p0, q0, hargs, rfl, rfl, h0, r0⟩ := trodAll_cons hA
  obtain ⟨v1, vs1, d1, ds1, p1, q1, rfl, rfl, rfl, h1, r1⟩ := trodAll_cons r0
  obtain ⟨v2, vs2, d2, ds2, p2, q2, rfl, rfl, rfl, h2, r2⟩ := trodAll_cons r1
  obtain ⟨v3, vs3, d3, ds3, p3, q3, rfl, rfl, rfl, h3, r3⟩ := trodAll_cons r2
  obtain ⟨v4, vs4, d4, ds4, p4, q4, rfl, rfl, rfl, h4, r4⟩ := trodAll_cons r3
  obtain ⟨v5, vs5, d5, ds5, p5, q5, rfl, rfl, rfl, h5, r5⟩ := trodAll_cons r4
  obtain ⟨v6, vs6, d6, ds6, p6, q6, rfl, rfl, rfl, h6, r6⟩ := trodAll_cons r5
  obtain ⟨v7, vs7, d7, ds7, p7, q7, rfl, rfl, rfl, h7, r7⟩ := trodAll_cons r6
  obtain ⟨v8, vs8, d8, ds8, p8, q8, rfl, rfl, rfl, h8, r8⟩ := trodAll_cons r7
  obtain ⟨v9, vs9, d9, ds9, p9, q9, rfl, rfl, rfl, h9, r9⟩ := trodAll_cons r8
  obtain ⟨v10, vs10, d10, ds10, p10, q10, rfl, rfl, rfl, h10, r10⟩ := trodAll_cons r9
  obtain ⟨v11, vs11, d11, ds11, p11, q11, rfl, rfl, rfl, h11, r11⟩ := trodAll_cons r10
  obtain ⟨rfl, rfl, rfl⟩ := trodAll_nil r11
  obtain rfl : args = #[v0, v1, v2, v3, v4, v5, v6, v7, v8, v9, v10, v11] := by cases args; simp_all
  have hwt : ∀ {j : Nat} {t : TypeId} {d : DataW H}, ([5, 22, 22, 23, 22, 22, 24, 24, 25, 26, 25, 23] ++ Rows.lawS5507BWholeSpec.plain.varTypes Ybad.prog)[j]? = some t → ([d0, d1, d2, d3, d4, d5, d6, d7, d8, d9, d10, d11] ++ gs)[j]? = some d → ∀ n ∈ d.weights Ybad.prog t, n ≤ reachBytes :=
    fun h1 h2 n hn => by simpa using List.all_eq_true.1 hsz n (DataW.weights_mem_each h1 h2 n hn)
  obtain ⟨a0, rfl, rfl, rfl, w0⟩ := open_int Ybad.underlying5 (hval 0 5 v0 rfl rfl) h0
  have b0 := bounds_u8 w0
  obtain ⟨a0, rfl⟩ := Int.eq_ofNat_of_zero_le b0.1
  obtain ⟨a1, rfl, rfl, rfl, w1⟩ := open_int Ybad.underlying22 (hval 1 22 v1 rfl rfl) h1
  have b1 := bounds_u64 w1
  obtain ⟨a1, rfl⟩ := Int.eq_ofNat_of_zero_le b1.1
  obtain ⟨a2, rfl, rfl, rfl, w2⟩ := open_int Ybad.underlying22 (hval 2 22 v2 rfl rfl) h2
  have b2 := bounds_u64 w2
  obtain ⟨a2, rfl⟩ := Int.eq_ofNat_of_zero_le b2.1
  obtain ⟨a3, rfl, rfl, rfl, w3⟩ := open_int Ybad.underlying23 (hval 3 23 v3 rfl rfl) h3
  have b3 := bounds_u16 w3
  obtain ⟨a3, rfl⟩ := Int.eq_ofNat_of_zero_le b3.1
  obtain ⟨a4, rfl, rfl, rfl, w4⟩ := open_int Ybad.underlying22 (hval 4 22 v4 rfl rfl) h4
  have b4 := bounds_u64 w4
  obtain ⟨a4, rfl⟩ := Int.eq_ofNat_of_zero_le b4.1
  obtain ⟨a5, rfl, rfl, rfl, w5⟩ := open_int Ybad.underlying22 (hval 5 22 v5 rfl rfl) h5
  have b5 := bounds_u64 w5
  obtain ⟨a5, rfl⟩ := Int.eq_ofNat_of_zero_le b5.1
  obtain ⟨a6, rfl, rfl, rfl, w6⟩ := open_int Ybad.underlying24 (hval 6 24 v6 rfl rfl) h6
  have b6 := bounds_u32 w6
  obtain ⟨a6, rfl⟩ := Int.eq_ofNat_of_zero_le b6.1
  obtain ⟨a7, rfl, rfl, rfl, w7⟩ := open_int Ybad.underlying24 (hval 7 24 v7 rfl rfl) h7
  have b7 := bounds_u32 w7
  obtain ⟨a7, rfl⟩ := Int.eq_ofNat_of_zero_le b7.1
  obtain ⟨a8, len8, cap8, rfl⟩ := okWide_slice Ybad.underlying25 (hval 8 25 v8 rfl rfl)
  have k8 := h8
  have lt8 : ∀ x ∈ p8, x.block < W.heap.size := by obtain ⟨m, hm⟩ := k8; exact DataW.trod_lt m _ _ _ hm
  obtain ⟨f8, fl8, fb8, fi8, fw8⟩ := open_bytes h8
  have m8 := fw8 (hwt (j := 8) rfl rfl)
  obtain ⟨a9, len9, cap9, rfl⟩ := okWide_slice Ybad.underlying26 (hval 9 26 v9 rfl rfl)
  have k9 := h9
  have lt9 : ∀ x ∈ p9, x.block < W.heap.size := by obtain ⟨m, hm⟩ := k9; exact DataW.trod_lt m _ _ _ hm
  obtain ⟨A, Ln, Cp, Bs, hit, hiw⟩ := open_items h9
  obtain ⟨m9, mi⟩ := hiw (hwt (j := 9) rfl rfl)
  obtain ⟨a10, len10, cap10, rfl⟩ := okWide_slice Ybad.underlying25 (hval 10 25 v10 rfl rfl)
  have k10 := h10
  have lt10 : ∀ x ∈ p10, x.block < W.heap.size := by obtain ⟨m, hm⟩ := k10; exact DataW.trod_lt m _ _ _ hm
  obtain ⟨f10, fl10, fb10, fi10, fw10⟩ := open_bytes h10
  have m10 := fw10 (hwt (j := 10) rfl rfl)
  obtain ⟨a11, rfl, rfl, rfl, w11⟩ := open_int Ybad.underlying23 (hval 11 23 v11 rfl rfl) h11
  have b11 := bounds_u16 w11
  obtain ⟨a11, rfl⟩ := Int.eq_ofNat_of_zero_le b11.1
  obtain ⟨g, t, cs, f, d, pv, rfl, hg, ht, hv, hd, rfl⟩ := trodVars_one hV
  obtain rfl := Option.some.inj (gErr.symm.trans hg)
  obtain rfl := Option.some.inj (tErr.symm.trans ht)
  obtain ⟨x, rfl, hx, rfl, rfl, hcx⟩ := token_of gErr Ybad.underlying33 hv hd
  obtain ⟨ae, hve⟩ := laid_err hX
  obtain rfl : x = .iface 63 (.pointer (some ae)) := by
    have := Option.some.inj (hv.symm.trans hve)
    simpa using this
  have hpos : 0 < W.heap.size := block_lt_of_cell hcx
  clear hA0 hV0 hval0
  refine (law_any a0 a1 a2 a3 a4 a5 a6 a7 a11 a8 a9 a10 len8 cap8 len9 cap9 len10 cap10 f8 f10 A Ln Cp Bs 63 (.pointer (some ae)) W (eqE ae) hcx (by omega) (by omega) (by omega) (by omega) (by omega) (by omega) (by omega) (by omega) (by omega) fi8 fb8 fi10 fl10 fb10 hit m8 m9 m10 mi).mono fun e W' ⟨he, bel⟩ => ?_
  subst he
  have hv' : W'.var? Ybad.prog errName = some #[.iface 63 (.pointer (some ae))] := var?_below bel gErr hpos hv
  exact ⟨_, rfl, _, _, _, [], _, [.cell 0 0], hW', trodAll_mk1 (shut_bool Ybad.underlying4 _),
    (trodAll_cons_mk (shut_int Ybad.underlying5 w0) (trodAll_cons_mk (shut_int Ybad.underlying22 w1) (trodAll_cons_mk (shut_int Ybad.underlying22 w2) (trodAll_cons_mk (shut_int Ybad.underlying23 w3) (trodAll_cons_mk (shut_int Ybad.underlying22 w4) (trodAll_cons_mk (shut_int Ybad.underlying22 w5) (trodAll_cons_mk (shut_int Ybad.underlying24 w6) (trodAll_cons_mk (shut_int Ybad.underlying24 w7) (trodAll_cons_mk (Below.trod laidOut (by kernel_rfl) (of_decide_eq_true (by kernel_rfl)) k8 bel lt8) (trodAll_cons_mk (Below.trod laidOut (by kernel_rfl) (of_decide_eq_true (by kernel_rfl)) k9 bel lt9) (trodAll_cons_mk (Below.trod laidOut (by kernel_rfl) (of_decide_eq_true (by kernel_rfl)) k10 bel lt10) (trodAll_cons_mk (shut_int Ybad.underlying23 w11) trodAll_mk0)))))))))))),
    vars_read1 enc gErr tErr Ybad.underlying33 hv' hx _, bel.frame _, fun h => by cases h⟩

theorem row_holds : Rows.LawS5507BWholeSaid :=
  OpenClaim.holds_of_wide 3 Ybad.f3 rfl rfl rfl rfl rfl rfl rfl ⟨rfl, rfl, rfl, rfl, rfl⟩ rfl rfl rfl rfl rfl (by kernel_rfl) Ybad.func3 (by kernel_rfl)
    (of_decide_eq_true (by kernel_rfl)) (by unfold Func.isWrapper; first | (rw [if_pos (by decide +kernel)]; kernel_rfl) | (rw [if_neg (by decide +kernel)]; exact ⟨rfl, rfl⟩))
    (fun os started H enc _ => lifted os started H enc)

theorem card_holds : Rows.LawS5507BWholeCardSaid :=
  Claim7.holds_tied_plain_at .later [] [.sentinel] true (true, "3c8f9da9b6f0b9e7eb93922cd31268fd4fc576517a58b93c35540a9e711dc508") true
    row_holds (fun _ h => by cases h) (by kernel_rfl) (fun _ h => by cases h) lawS5507BWhole_row_tie rfl ⟨rfl, rfl⟩ (by kernel_rfl) rfl
    (fun f fn hf hfn => by
      obtain rfl : f = 3 := Option.some.inj ((show Ybad.prog.funcNamed Rows.lawS5507BWholeRow.func = some 3 by kernel_rfl).symm.trans hf) |>.symm
      obtain rfl : fn = Ybad.f3 := (Option.some.inj (Ybad.func3.symm.trans hfn)).symm
      exact ⟨by kernel_rfl, fun j t ht => by
        rw [Ybad.params3] at ht
        have hm : t ∈ [5, 22, 22, 23, 22, 22, 24, 24, 25, 26, 25, 23] := by simpa using Array.mem_of_getElem? ht
        have hall : ([5, 22, 22, 23, 22, 22, 24, 24, 25, 26, 25, 23].all fun u => !Ybad.prog.wantsStandIn u) = true := by kernel_rfl
        exact (show Ybad.prog.wantsStandIn t = false by simpa using List.all_eq_true.1 hall t hm)⟩)
    (by kernel_rfl)
end Go.Proofs.YbulkdjaiDoor.whole

namespace Go.Proofs.YbulkdjaiDoor
theorem lawS5507BWhole_card : Rows.LawS5507BWholeCardSaid := whole.card_holds
end Go.Proofs.YbulkdjaiDoor
