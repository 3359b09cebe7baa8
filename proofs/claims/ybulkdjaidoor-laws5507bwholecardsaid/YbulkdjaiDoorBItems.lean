/-
  ParseItems, walked over this dump.
-/
import Derived.Test.YbulkdjaiDoorBFill
import Derived.BigQuiet
namespace Go.Proofs.YbulkdjaiDoor.B
open Go.RowKit

theorem info25 : (Ybad.prog.info? 25).map (fun i => (i.zero, i.size, i.bytes)) = some (some (.slice none 0 0), 1, 24) := by kernel_rfl
theorem info_parts' {P : Program} {e : TypeId} {z : Value} {s b : Nat} (h : (P.info? e).map (fun i => (i.zero, i.size, i.bytes)) = some (some z, s, b)) : ∃ i, P.info? e = some i ∧ i.zero = some z ∧ i.size = s ∧ i.bytes = b := by
  cases hi : P.info? e with
  | none => rw [hi] at h; cases h
  | some i =>
    rw [hi] at h
    simp only [Option.map_some, Option.some.injEq, Prod.mk.injEq] at h
    exact ⟨i, rfl, h.1, h.2.1, h.2.2⟩

/-- 'make([][]byte, k)'. -/
theorem wpList_make_rows (w : World) {ops : Array Oper} {rest : List Oper} {o : Oper} {a : Act} {Q : Exit → Act → World → Prop} (hg : o.guard = none) (l c : Operand) (hop : o.op = Op.makeSlice 26 l c)
    (L C : Int) (k : Nat) (hl : a.eval l = .int .i64 L) (hc : a.eval c = .int .i64 C) (hL : L = (k : Int)) (hC : C = (k : Int)) (hk : k ≤ 1000000000)
    (h : wpList Ybad.prog ops Q rest (a.put o.dst (.slice (some ⟨w.heap.size, 0, none⟩) k k)) (w.alloc (.cells (List.replicate k (Value.slice none 0 0)).toArray 25))) : wpList Ybad.prog ops Q (o :: rest) a w := by
  obtain ⟨i, hi, hz0, hz1, hz2⟩ := info_parts' info25
  subst hL hC
  have hr := run_make (P := Ybad.prog) w 26 25 i (.slice none 0 0) Ybad.underlying26 hi hz0 .i64 .i64 (k : Int) (k : Int) (by omega) (by omega) (by rw [hz2]; omega) (by omega)
  have e1 : madeCells (Value.slice none 0 0).cells ((k : Int).toNat * i.size) = (List.replicate k (Value.slice none 0 0)).toArray := by
    rw [hz1, Nat.mul_one, Int.toNat_natCast]
    apply Array.ext'
    rw [show (Value.slice none 0 0).cells = #[.slice none 0 0] from rfl, toList_madeCells_one]
  rw [e1] at hr
  simp only [Int.toNat_natCast] at hr
  refine wpList_plain hg fun K hK => ?_
  unfold Oper.wp
  simp [execOp, hop, hl, hc, hr, Result.andThen]
  exact hK _ _ h

/-- Where a loop over the items stands: xs are behind it, p is next; V is what the whole comes to. -/
def At (l : List Int) (V : Option (List (Nat × Nat))) (p : Nat) (xs : List (Nat × Nat)) : Prop := ∃ f, V = (scan l f p).map (xs ++ ·) ∧ l.length - p < f ∧ p ≤ l.length

theorem At.start (l : List Int) (p : Nat) (hp : p ≤ l.length) : At l (scan l (l.length + 1) p) p [] :=
  ⟨l.length + 1, by cases scan l (l.length + 1) p <;> simp, by omega, hp⟩
theorem At.done {l : List Int} {V : Option (List (Nat × Nat))} {p : Nat} {xs : List (Nat × Nat)} (h : At l V p xs) (hp : l.length ≤ p) : V = some xs := by
  obtain ⟨f, hV, hf, _⟩ := h
  obtain ⟨f, rfl⟩ : ∃ f', f = f' + 1 := ⟨f - 1, by omega⟩
  rw [hV, scan, if_pos hp]
  simp
theorem At.short {l : List Int} {V : Option (List (Nat × Nat))} {p : Nat} {xs : List (Nat × Nat)} (h : At l V p xs) (h1 : p < l.length) (h2 : l.length < p + 2) : V = none := by
  obtain ⟨f, hV, hf, _⟩ := h
  obtain ⟨f, rfl⟩ : ∃ f', f = f' + 1 := ⟨f - 1, by omega⟩
  rw [hV, scan, if_neg (by omega), if_pos h2]
  rfl
theorem At.bad {l : List Int} {V : Option (List (Nat × Nat))} {p : Nat} {xs : List (Nat × Nat)} (h : At l V p xs) (h1 : p + 2 ≤ l.length) (h2 : num l p = 0 ∨ l.length < p + 2 + num l p ∨ okK (l.getD (p + 2) 0) = false) : V = none := by
  obtain ⟨f, hV, hf, _⟩ := h
  obtain ⟨f, rfl⟩ : ∃ f', f = f' + 1 := ⟨f - 1, by omega⟩
  rw [hV, scan, if_neg (by omega), if_neg (by omega), if_pos h2]
  rfl
theorem At.next {l : List Int} {V : Option (List (Nat × Nat))} {p : Nat} {xs : List (Nat × Nat)} (h : At l V p xs) (h1 : p + 2 ≤ l.length) (h2 : 0 < num l p) (h3 : p + 2 + num l p ≤ l.length) (h4 : okK (l.getD (p + 2) 0) = true) : At l V (p + 2 + num l p) (xs ++ [(p + 2, num l p)]) := by
  obtain ⟨f, hV, hf, _⟩ := h
  obtain ⟨f, rfl⟩ : ∃ f', f = f' + 1 := ⟨f - 1, by omega⟩
  refine ⟨f, ?_, by omega, h3⟩
  rw [hV, scan, if_neg (by omega), if_neg (by omega), if_neg (by rw [h4]; simp; omega)]
  cases scan l f (p + 2 + num l p) <;> simp
theorem At.few {l : List Int} {V : Option (List (Nat × Nat))} {p : Nat} {xs : List (Nat × Nat)} (h : At l V p xs) : p ≤ l.length := h.choose_spec.2.2

set_option maxHeartbeats 8000000 in
set_option maxRecDepth 100000 in
theorem items_any (g p0 c0 : Nat) (a0 : Option Addr) (l : List Int) (hby : Byt l) (E : Value) (w : World) (hg : g < w.heap.size) (hlen : l.length ≤ 10000000) (hp0 : p0 ≤ l.length)
    (ha0 : 0 < l.length - p0 → a0 = some ⟨g, p0, none⟩) (hc0 : l.length - p0 ≤ c0)
    (hc : ∀ j, j < l.length → w.cell? ⟨g, j, none⟩ = some (.int .u8 (l.getD j 0))) (hE : w.cell? ⟨0, 0, none⟩ = some E) :
    Calls Ybad.prog 18 #[.slice a0 (l.length - p0) c0, .func (.func 19) #[] #[]] w fun e w' => Below w.heap.size w w' ∧
      ((scan l (l.length + 1) p0 = none ∧ e = .returned (.tuple #[.slice none 0 0, E])) ∨
       (∃ xs M, scan l (l.length + 1) p0 = some xs ∧ e = .returned (.tuple #[.slice (some ⟨M, 0, none⟩) xs.length xs.length, .nilIface]) ∧ w.heap.size ≤ M ∧ Laid w' M xs.length xs.length g xs)) := by
  have HC := hide hc
  clear hc
  have h0s : 0 < w.heap.size := by omega
  obtain ⟨V, HV⟩ : ∃ V, Hid (V = scan l (l.length + 1) p0) := ⟨_, rfl⟩
  rw [← HV.out]
  have hstart := At.start l p0 hp0
  rw [← HV.out] at hstart
  have HST := hide hstart
  clear hstart
  go_enter Ybad.func18, Ybad.ntmps18
  go_wp2_with fail
  go_loopw [6, 7] (fun cv rv wr => ∃ p m c : Nat, ∃ a : Option Addr, ∃ xs, At l V p xs ∧ xs.length ≤ p ∧ cv = .int .i64 (xs.length : Nat) ∧ rv = .slice a m c ∧ m = l.length - p ∧ (0 < m → a = some ⟨g, p, none⟩) ∧ m ≤ c ∧ Below w.heap.size w wr) (fun _ rv _ => sliceLen rv)
  case atStart => exact ⟨p0, l.length - p0, c0, a0, [], HST.out, by simp, rfl, rfl, rfl, ha0, hc0, Below.refl _ _⟩
  case round =>
    obtain ⟨p, m, c, a, xs, hat, hxp, rfl, rfl, hm, ha, hcap, hbel⟩ := hrel
    have hpl := hat.few
    have hE1 := (hbel.cell (p := ⟨0, 0, none⟩) h0s).trans hE
    have hbs := hbel.size
    have HAT := hide hat
    have HBEL := hide hbel
    have HM := hide hm
    clear hat hbel hm
    rcases (show m = 0 ∨ m = 1 ∨ 2 ≤ m by omega) with rfl | rfl | hm2
    · have hpl2 : p = l.length := by have := HM.out; omega
      subst hpl2
      have hV := HAT.out.done (Nat.le_refl _)
      have HVV := hide hV
      have hsc : scan l (l.length + 1) p0 = some xs := by rw [← HV.out]; exact hV
      have HSC := hide hsc
      clear hV hsc
      obtain ⟨W1, HW1⟩ : ∃ W1, Hid (W1 = wr.alloc (.cells (List.replicate xs.length (Value.slice none 0 0)).toArray 25)) := ⟨_, rfl⟩
      go_wp2_with (first | (at_make; go_must (refine wpList_make_rows wr rfl _ _ rfl _ _ xs.length (by rfl) (by rfl) (by omega) (by omega) (by omega) ?_)))
      have hb1 : Below wr.heap.size wr (wr.alloc (.cells (List.replicate xs.length (Value.slice none 0 0)).toArray 25)) := (Below.refl _ _).alloc (Nat.le_refl _) _
      have hlaid : Laid (wr.alloc (.cells (List.replicate xs.length (Value.slice none 0 0)).toArray 25)) wr.heap.size xs.length 0 g xs := ⟨_, heap_alloc_new wr _, by simp, fun j hj => absurd hj (by omega)⟩
      have hcc : ∀ j, j < l.length → (wr.alloc (.cells (List.replicate xs.length (Value.slice none 0 0)).toArray 25)).cell? ⟨g, j, none⟩ = some (.int .u8 (l.getD j 0)) := fun j hj =>
        ((hb1.cell (p := ⟨g, j, none⟩) (by show g < _; omega)).trans (HBEL.out.cell (p := ⟨g, j, none⟩) hg)).trans (HC.out j hj)
      refine (fill_any g wr.heap.size p0 c0 a0 l hby (l.length + 1) xs _ (by omega) hlen (by omega) hp0 HSC.out hlaid ha0 hc0 hcc).mono ?_
      rintro e w2 ⟨rfl, hlaid2, hb2⟩
      have HL2 := hide hlaid2
      have HB2 := hide hb2
      clear hb1 hlaid hcc hlaid2 hb2
      go_wp2_with fail
      go_ret2
      exact ⟨HBEL.out.trans (((Below.refl _ _).alloc (Nat.le_refl _) _).trans HB2.out |>.mono hbs), .inr ⟨xs, wr.heap.size, HVV.out, rfl, hbs, HL2.out⟩⟩
    · have HV0 := hide (HAT.out.short (by have := HM.out; omega) (by have := HM.out; omega))
      go_wp2_with fail
      go_quiet (fail)
      go_wp2_with fail
      go_ret2
      exact ⟨HBEL.out.trans (Joins.below_draws _ _ _), .inl ⟨HV0.out, rfl⟩⟩
    · obtain rfl := ha (by omega)
      have k0 := (HBEL.out.cell (p := ⟨g, p, none⟩) hg).trans (HC.out p (by have := HM.out; omega))
      have k1 := (HBEL.out.cell (p := ⟨g, p + 1, none⟩) hg).trans (HC.out (p + 1) (by have := HM.out; omega))
      have k2 := fun h : p + 2 < l.length => (HBEL.out.cell (p := ⟨g, p + 2, none⟩) hg).trans (HC.out (p + 2) h)
      have b0 := hby.getD p
      have b1 := hby.getD (p + 1)
      have hbN := num_eq hby p
      have hd1 : decide (0 < (m : Int)) = true := by simp; omega
      have hd2 : decide ((m : Int) < 2) = false := by simp; omega
      have HK2 := hide k2
      clear k2
      go_wp2_with fail
      refine (u16_any g p m c _ _ wr hm2 b0 b1 k0 k1).mono ?_
      rintro e w1 ⟨rfl, k, rfl⟩
      rw [hbN.1]
      obtain ⟨W1, HW1⟩ : ∃ W1, Hid (W1 = (wr.alloc (.cells #[] 53)).drewN k) := ⟨_, rfl⟩
      rw [← HW1.out]
      have hb1 : Below wr.heap.size wr W1 := by rw [HW1.out]; exact ((Below.refl _ _).alloc (Nat.le_refl _) _).trans (Joins.below_draws _ _ _)
      have hE2 := (hb1.cell (p := ⟨0, 0, none⟩) (by show 0 < _; omega)).trans hE1
      have HB1 := hide (HBEL.out.trans (hb1.mono hbs))
      have HBW := hide hb1
      clear hb1 k0 k1 b0 b1 HW1
      obtain ⟨N, HN⟩ : ∃ N, Hid (N = num l p) := ⟨_, rfl⟩
      rw [← HN.out] at hbN ⊢
      have hN16 := hbN.2
      clear hbN
      have i1 : (2 : Int) ≤ (c : Int) := by omega
      have i2 : (2 : Int) ≤ (m : Int) := by omega
      have i3 : (m : Int) ≤ (c : Int) := by omega
      by_cases hN0 : N = 0
      · have HV0 := hide (HAT.out.bad (by have := HM.out; omega) (.inl (by rw [← HN.out]; exact hN0)))
        have hz : ((N : Int) == 0) = true := by rw [beq_iff_eq]; omega
        go_wp2_with fail
        all_goals
          go_quiet (fail)
          go_wp2_with fail
          go_ret2
          exact ⟨HB1.out.trans (Joins.below_draws _ _ _), .inl ⟨HV0.out, rfl⟩⟩
      · have hz : ((N : Int) == 0) = false := by rw [beq_eq_false_iff_ne]; omega
        by_cases hbig : m - 2 < N
        · have HV0 := hide (HAT.out.bad (by have := HM.out; omega) (.inr (.inl (by rw [← HN.out]; have := HM.out; omega))))
          have hgt : decide (((m - 2 : Nat) : Int) < (N : Int)) = true := by simp; omega
          have hgt2 : decide ((m : Int) - 2 < (N : Int)) = true := by simp; omega
          go_wp2_with fail
          all_goals
            go_quiet (fail)
            go_wp2_with fail
            go_ret2
            exact ⟨HB1.out.trans (Joins.below_draws _ _ _), .inl ⟨HV0.out, rfl⟩⟩
        · have hgt : decide (((m - 2 : Nat) : Int) < (N : Int)) = false := by simp; omega
          have hgt2 : decide ((m : Int) - 2 < (N : Int)) = false := by simp; omega
          have hc2 : ¬ c = 2 := by omega
          have i4 : (N : Int) ≤ ((c - 2 : Nat) : Int) := by omega
          have i5 : (N : Int) ≤ ((m - 2 : Nat) : Int) := by omega
          have k2 := (HBW.out.cell (p := ⟨g, p + 2, none⟩) (by show g < _; omega)).trans (HK2.out (by have := HM.out; omega))
          go_wp2_with fail
          refine (closure_any g (p + 2) N (c - 2) _ W1 (by omega) k2).mono ?_
          rintro e w3 ⟨rfl, rfl⟩
          cases hok : okK (l.getD (p + 2) 0) with
          | false =>
            have HV0 := hide (HAT.out.bad (by have := HM.out; omega) (.inr (.inr hok)))
            go_wp2_with fail
            all_goals
              go_quiet (fail)
              go_wp2_with fail
              go_ret2
              exact ⟨HB1.out.trans (Joins.below_draws _ _ _), .inl ⟨HV0.out, rfl⟩⟩
          | true =>
            have hnx := HAT.out.next (by have := HM.out; omega) (by rw [← HN.out]; omega) (by rw [← HN.out]; have := HM.out; omega) hok
            rw [← HN.out] at hnx
            have HNX := hide hnx
            clear hnx k2
            go_wp2_with fail
            go_roundw
            case rel =>
              have hm := HM.out
              exact ⟨p + 2 + N, m - 2 - N, c - 2 - N, if c - 2 = N then some ⟨g, p + 2, none⟩ else some ⟨g, p + 2 + N, none⟩, xs ++ [(p + 2, N)], HNX.out, by simp; omega, by simp, rfl, by omega, fun hpos => if_neg (by omega), by omega, HB1.out⟩
            case measure => show m - 2 - N < m; omega
end Go.Proofs.YbulkdjaiDoor.B
