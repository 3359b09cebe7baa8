/-
  THE PROOF OF 'Rows.LawS5505CWholeSaid': the guide's frame, turned by hand to (uint8, []uint16, [32]byte, []byte); the walk out of YbulkdizgLaw.
-/
import Derived.Test.YbulkdizgRows
import Derived.Test.YbulkdizgLaw
import Derived.WalkKit
import Derived.ProofKit
import Derived.OpenShut
import Derived.ShutString
import Derived.ChangeOld
import Derived.Below
namespace Go.Proofs.Ybulkdizg.lawS5505CWhole
open Go.ChangeShapes Go.WideShapes Go.ChangeAt Go.RowKit
set_option linter.unusedVariables false

theorem own : ownKnob Yba.prog.godebug = none := by kernel_rfl
theorem laidOut : laidOutB Yba.prog = true := by kernel_rfl

theorem long0 (x : Int) (a1 : Option Addr) (len1 cap1 : Nat) (R : Array Value) (a0 : Option Addr) (len0 cap0 : Nat) (w : World) (h : ¬ len0 ≤ 1048576) :
    Calls Yba.prog 4 #[.int .u8 x, .slice a1 len1 cap1, .agg R, .slice a0 len0 cap0] w fun e w' => e = .returned (.bool true) ∧ Below w.heap.size w w' := by
  have hd0 : decide (1048576 < (len0 : Int)) = true := by simp; omega
  go_enter Yba.func4, Yba.ntmps4
  go_wp2_with fail
  go_ret
  exact ⟨rfl, (Below.refl _ _).alloc (Nat.le_refl _) _⟩
theorem long1 (x : Int) (a1 : Option Addr) (len1 cap1 : Nat) (R : Array Value) (a0 : Option Addr) (len0 cap0 : Nat) (w : World) (h0 : len0 ≤ 1048576) (h : ¬ len1 ≤ 1048576) :
    Calls Yba.prog 4 #[.int .u8 x, .slice a1 len1 cap1, .agg R, .slice a0 len0 cap0] w fun e w' => e = .returned (.bool true) ∧ Below w.heap.size w w' := by
  have hd0 : decide (1048576 < (len0 : Int)) = false := by simp; omega
  have hd1 : decide (1048576 < (len1 : Int)) = true := by simp; omega
  go_enter Yba.func4, Yba.ntmps4
  go_wp2_with fail
  go_ret
  exact ⟨rfl, (Below.refl _ _).alloc (Nat.le_refl _) _⟩

theorem isRow_at {k : IntKind} {w : World} {a : Option Addr} {len cap : Nat} {zs : List Int} (h : IsRow k w a len cap zs) (W : World) (hb : Below w.heap.size w W) :
    0 < len → ∃ b o, a = some ⟨b, o, none⟩ ∧ ∀ t, t < len → W.cell? ⟨b, o + t, none⟩ = some (.int k ((zs.take len).getD t 0)) := by
  intro hp
  rcases h with ⟨_, rfl, _⟩ | ⟨x, rfl, hl, _, hz, hc, _⟩
  · omega
  · obtain ⟨b, off, rfl, hj⟩ := ints_at hc (by omega)
    refine ⟨b, off, rfl, fun i hi => ?_⟩
    have e := hj i (by omega)
    rw [hb.cell (block_lt_of_cell e), e]
    simp [List.getD_eq_getElem?_getD, hi]
theorem isRow_bd {w : World} {a : Option Addr} {len cap : Nat} {zs : List Int} (h : IsRow .u16 w a len cap zs) (t : Nat) : 0 ≤ (zs.take len).getD t 0 ∧ (zs.take len).getD t 0 ≤ 65535 := by
  by_cases ht : t < (zs.take len).length
  · have hm : (zs.take len).getD t 0 ∈ zs := by
      rw [List.getD_eq_getElem?_getD, List.getElem?_eq_getElem ht]
      exact List.mem_of_mem_take (List.getElem_mem ht)
    rcases h with ⟨_, rfl, rfl, rfl⟩ | ⟨x, rfl, hl, _, hz, _, hw⟩
    · simp at ht
    · have := bounds_u16 (hw _ hm)
      omega
  · rw [List.getD_eq_getElem?_getD, List.getElem?_eq_none (by omega)]
    simp

theorem walk (a : Int) (a1 : Option Addr) (len1 cap1 : Nat) (z1 : List Int) (rho : List Int) (hr : rho.length = 32) (a0 : Option Addr) (len0 cap0 : Nat) (z0 : List Int) (w : World) (wa : (Lit.int .u8 a).wf = true) (w1 : IsRow .u16 w a1 len1 cap1 z1) (w0 : IsRow .u8 w a0 len0 cap0 z0) :
    Calls Yba.prog 4 #[.int .u8 a, .slice a1 len1 cap1, .agg (bytesV rho).toArray, .slice a0 len0 cap0] w fun e w' => e = .returned (.bool true) ∧ Below w.heap.size w w' := by
  have ba := bounds_u8 wa
  by_cases h0 : len0 ≤ 1048576
  · by_cases h1 : len1 ≤ 1048576
    · obtain ⟨s, rfl⟩ := Int.eq_ofNat_of_zero_le (show 0 ≤ a by omega)
      exact law_any s a1 len1 cap1 (z1.take len1) rho a0 len0 cap0 (z0.take len0) w (isRow_len w1) (isRow_at w1) (isRow_bd w1) (isRow_len w0) (isRow_in w0) hr h0 h1 (by omega)
    · exact long1 a a1 len1 cap1 _ a0 len0 cap0 w h0 h1
  · exact long0 a a1 len1 cap1 _ a0 len0 cap0 w h0

theorem okWide_array {P : Program} {w : World} {r : Reach} {base : Nat} {t : TypeId} {v : Value} {n : Nat} {e : TypeId} (ht : P.underlying t = some (.array n e)) (h : Value.okWide P w r base t v) : ∃ cs, v = .agg cs ∧ cs.size = P.cellsOf t := by
  unfold Value.okWide at h
  rw [ht] at h
  cases v <;> simp_all

/-- An array of 32 bytes, opened. -/
theorem open_rho {H : Type} {enc : TypeId × Value → H} {W : World} {base : Nat} {spare : Nat → Bool} {held : Bool} {cs : Array Value} {d : DataW H} {p : List MemPlace} (h : DataW.Trod enc Yba.prog W base spare held 34 (.agg cs) d p) :
    ∃ rho : List Int, rho.length = 32 ∧ cs = (bytesV rho).toArray := by
  obtain ⟨fuel, hf⟩ := h
  obtain ⟨xs, m, _, _, hl, hx, hi⟩ := DataW.trod_array Yba.underlying34 hf
  have e5 : Yba.prog.cellsOf 5 = 1 := by kernel_rfl
  have e34 : Yba.prog.cellsOf 34 = 32 := by kernel_rfl
  rw [e34] at hl
  have hcl : cs.toList.length = 32 := hl
  have each : ∀ i, i < 32 → ∃ n, cs.toList[i]? = some (.int .u8 n) := fun i hi32 => by
    have e := hi i hi32
    rw [e5, Nat.mul_one, List.getElem?_eq_getElem (show i < xs.length by omega)] at e
    obtain ⟨n, hn, _⟩ := DataW.trod_int Yba.underlying5 e
    refine ⟨n, ?_⟩
    have e2 : (cs.toList.drop i).take 1 = [.int .u8 n] := hn
    have e3 : ((cs.toList.drop i).take 1)[0]? = some (.int .u8 n) := by rw [e2]; rfl
    simpa using e3
  refine ⟨cs.toList.map intOf, by simpa using hcl, ?_⟩
  apply Array.ext'
  rw [bytesV, List.map_map]
  apply List.ext_getElem?
  intro i
  by_cases h32 : i < 32
  · obtain ⟨n, e⟩ := each i h32
    rw [e, List.getElem?_map, e]
    rfl
  · rw [List.getElem?_eq_none (by omega), List.getElem?_eq_none (by simp at hcl ⊢; omega)]

set_option maxRecDepth 100000 in
theorem lifted (os : Os) (started : os.Started) (H : Type) (enc : TypeId × Value → H) :
    ReturnsInHanded {} Yba.checked os 4 .any (Rows.lawS5505CWholeSpec.pre6 enc Yba.prog Yba.f4 Rows.lawS5505CWholeRow.domain false) (Rows.lawS5505CWholeSpec.post enc Yba.prog Yba.f4 false true false false) := by
  refine returnsInHanded_of_change (C := Yba.checked) own started (by kernel_rfl) Yba.func4
    (ChangeSpec.witness6 (enc := enc) (C := Yba.checked) false ⟨#[], #[.int .u8 0, .slice none 0 0, .agg (Array.replicate 32 (.int .u8 0)), .slice none 0 0], []⟩ 8 (by kernel_rfl) (by kernel_rfl) (by kernel_rfl) (by kernel_rfl)) ?_
  intro W base args ds gs before hval0 hW hcnd _
  have hval : ∀ (j : Nat) t v, Yba.f4.params[j]? = some t → args[j]? = some v → Value.okWide Yba.prog W .any base t v := hval0
  have hW' := hW
  obtain ⟨p, q, hA0, hV, rfl, hfz, hnd⟩ := hW
  have hA : DataW.TrodAll enc Yba.prog W 0 (fun _ => true) true Yba.f4.params.toList args.toList ds p := hA0
  rw [Yba.params4] at hA hval
  obtain ⟨v0, vs0, d0, ds0, p0, q0, hargs, rfl, rfl, h0, r0⟩ := trodAll_cons hA
  obtain ⟨v1, vs1, d1, ds1, p1, q1, rfl, rfl, rfl, h1, r1⟩ := trodAll_cons r0
  obtain ⟨v2, vs2, d2, ds2, p2, q2, rfl, rfl, rfl, h2, r2⟩ := trodAll_cons r1
  obtain ⟨v3, vs3, d3, ds3, p3, q3, rfl, rfl, rfl, h3, r3⟩ := trodAll_cons r2
  obtain ⟨rfl, rfl, rfl⟩ := trodAll_nil r3
  obtain rfl : args = #[v0, v1, v2, v3] := by cases args; simp_all
  obtain ⟨rfl, rfl⟩ := trodVars_none hV
  obtain ⟨a, rfl, rfl, rfl, wa⟩ := open_int Yba.underlying5 (hval 0 5 v0 rfl rfl) h0
  obtain ⟨a1, len1, cap1, rfl⟩ := okWide_slice Yba.underlying33 (hval 1 33 v1 rfl rfl)
  have k1 := h1
  have lt1 : ∀ x ∈ p1, x.block < W.heap.size := by obtain ⟨m, hm⟩ := k1; exact DataW.trod_lt m _ _ _ hm
  obtain ⟨z1, w1⟩ : ∃ zs, IsRow .u16 W a1 len1 cap1 zs := by
    obtain ⟨fuel, hf⟩ := h1
    rcases open_ints Yba.underlying33 Yba.underlying25 (by kernel_rfl) hf with ⟨hcs, _⟩ | ⟨x, l, c, zs, hcs, _, hl, hm, hz, _, hcell, hwz⟩
    · simp [Value.cells] at hcs
      obtain ⟨rfl, rfl, rfl⟩ := hcs
      exact ⟨[], .inl ⟨rfl, rfl, rfl, rfl⟩⟩
    · simp [Value.cells] at hcs
      obtain ⟨rfl, rfl, rfl⟩ := hcs
      exact ⟨zs, .inr ⟨_, rfl, hl, hm, by simpa using hz, hcell, hwz⟩⟩
  obtain ⟨cs, rfl, _⟩ := okWide_array Yba.underlying34 (hval 2 34 v2 rfl rfl)
  have k2 := h2
  have lt2 : ∀ x ∈ p2, x.block < W.heap.size := by obtain ⟨m, hm⟩ := k2; exact DataW.trod_lt m _ _ _ hm
  obtain ⟨rho, hr, hcs⟩ := open_rho h2
  obtain ⟨a0, len0, cap0, rfl⟩ := okWide_slice Yba.underlying22 (hval 3 22 v3 rfl rfl)
  have k3 := h3
  have lt3 : ∀ x ∈ p3, x.block < W.heap.size := by obtain ⟨m, hm⟩ := k3; exact DataW.trod_lt m _ _ _ hm
  obtain ⟨z0, w0⟩ : ∃ zs, IsRow .u8 W a0 len0 cap0 zs := by
    obtain ⟨fuel, hf⟩ := h3
    rcases open_ints Yba.underlying22 Yba.underlying5 (by kernel_rfl) hf with ⟨hcs, _⟩ | ⟨x, l, c, zs, hcs, _, hl, hm, hz, _, hcell, hwz⟩
    · simp [Value.cells] at hcs
      obtain ⟨rfl, rfl, rfl⟩ := hcs
      exact ⟨[], .inl ⟨rfl, rfl, rfl, rfl⟩⟩
    · simp [Value.cells] at hcs
      obtain ⟨rfl, rfl, rfl⟩ := hcs
      exact ⟨zs, .inr ⟨_, rfl, hl, hm, by simpa using hz, hcell, hwz⟩⟩
  clear hA0 hval0
  have hwalk := walk a a1 len1 cap1 z1 rho hr a0 len0 cap0 z0 W wa w1 w0
  rw [← hcs] at hwalk
  refine hwalk.mono fun e W' ⟨he, bel⟩ => ?_
  subst he
  exact ⟨_, rfl, _, _, _, [], _, [], hW', trodAll_mk1 (shut_bool Yba.underlying4 _), (trodAll_cons_mk (shut_int Yba.underlying5 wa) (trodAll_cons_mk (Below.trod laidOut (by kernel_rfl) (of_decide_eq_true (by kernel_rfl)) k1 bel lt1) (trodAll_cons_mk (Below.trod laidOut (by kernel_rfl) (of_decide_eq_true (by kernel_rfl)) k2 bel lt2) (trodAll_cons_mk (Below.trod laidOut (by kernel_rfl) (of_decide_eq_true (by kernel_rfl)) k3 bel lt3) trodAll_mk0)))), rfl, bel.frame _, fun h => by cases h⟩

theorem over : Rows.lawS5505CWholeRow.holds Yba.pinned (OpenSpec.ofChange Rows.lawS5505CWholeSpec) :=
  OpenClaim.holds_of_wide 4 Yba.f4 rfl rfl rfl rfl rfl rfl rfl ⟨rfl, rfl, rfl, rfl, rfl⟩ rfl rfl rfl rfl rfl (by kernel_rfl) Yba.func4 (by kernel_rfl)
    (of_decide_eq_true (by kernel_rfl)) (by unfold Func.isWrapper; first | (rw [if_pos (by decide +kernel)]; kernel_rfl) | (rw [if_neg (by decide +kernel)]; exact ⟨rfl, rfl⟩))
    (fun os started H enc _ => lifted os started H enc)

/-- ████ THE STATEMENT ████ -/
theorem proved : Rows.LawS5505CWholeSaid := over
end Go.Proofs.Ybulkdizg.lawS5505CWhole

namespace Go.Proofs.Ybulkdizg
theorem lawS5505CWhole_holds : Rows.LawS5505CWholeSaid := lawS5505CWhole.proved
end Go.Proofs.Ybulkdizg
