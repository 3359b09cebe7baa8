/-
  strconv.AppendUint(dst, u, 10) ONTO A SLICE THAT THE CALL OWNS, over this dump: the shelf's contracts of small, numDigits and formatBase10 laid here; AppendUint itself walked once more, so that it says where the new slice lies and what is left alone ('Grew').
-/
import Derived.Test.YbulkdjbkDoorEqual
import Derived.Shelf.Strconv.AppendUint10
import Derived.Shelf.Lay
import Derived.Ground.NamesProg
import Derived.Lib.AppendStr
import Derived.Deep.DeepMust
namespace Go.Proofs.YbulkdjbkDoor
open Go.Shelf Go.RowKit Go.Sort Go.Lib
set_option maxHeartbeats 4000000
shelf_lay LaysM.n288 Nm 288 at Ybad as Ybad.lays288

/-- The variable uint64pow10's name, as the row has it. -/
def powName : String := (Rows.lawS5509CWholeRow.named).headD ""

theorem small_any (i : Nat) (h : i < 100) (w : World) :
    Calls Ybad.prog 14 #[.int .i64 i] w fun e w' => e = .returned (.string ⟨(Lib.decDigits i).toArray⟩) ∧ w' = w :=
  Any.internal_strconv_small (P := Ybad.prog) (ρ := Ybad.lays288_ren) { Ybad.lays288 with } i h w

theorem numDigits_any (u : Nat) (h1 : 1 ≤ u) (h2 : u < 18446744073709551616) (w : World) (htab : Lib.TabIs Ybad.prog w powName .u64 Lib.pow10Tab) :
    Calls Ybad.prog 15 #[.int .u64 u] w fun e w' => e = .returned (.int .i64 (Lib.nDigits u)) ∧ w' = w :=
  Any.internal_strconv_numDigits (P := Ybad.prog) (ρ := Ybad.lays288_ren) { Ybad.lays288 with } u h1 h2 w htab

theorem format_any (blk off cap : Nat) (u : Nat) (d : Array UInt8) (w : World) (hH : Holds (fun (b : UInt8) => Value.int .u8 (b.toNat : Int)) w blk off d) (hu : u < 10 ^ d.size) (hu64 : u < 18446744073709551616) (hsz : d.size < 4611686018427387904) :
    Calls Ybad.prog 16 #[.slice (some ⟨blk, off, none⟩) d.size cap, .int .u64 u] w fun e w' =>
      e = .returned (.tuple #[]) ∧ ∃ (n v' : Nat) (dk : Array UInt8), w' = (putRow (fun (b : UInt8) => Value.int .u8 (b.toNat : Int)) w blk off dk).drewN n ∧ FmtInv d.size u 0 v' dk :=
  Any.internal_strconv_formatBase10 (P := Ybad.prog) (ρ := Ybad.lays288_ren) { Ybad.lays288 with } blk off cap u d w hH hu hu64 hsz

/-- 'append(s, t...)', t a string of at least one byte, s a slice that is owned and not nil: where the new slice lies. -/
theorem run_append_str_at {P : Program} (w : World) (B : Nat) (t u ty e : TypeId) (ht : P.underlying t = some (.slice e)) (hu : P.underlying u = some .string) (hinfo : (P.info? e).map (fun i => (i.zero, i.size, i.bytes)) = some (some (.int .u8 0), 1, 1))
    (g0 n cap0 : Nat) (xs : List Value) (hown : w.ownsRow B e 1 (.slice (some ⟨g0, 0, none⟩) n cap0) n xs) (s : ByteArray) (h0 : 0 < s.size) (hb : n + s.size ≤ 140737488355328) (hB : B ≤ w.heap.size) :
    ∃ g cap w', (Builtin.append_ #[t, u] ty #[.slice (some ⟨g0, 0, none⟩) n cap0, .string s]).run P w = .ok (.slice (some ⟨g, 0, none⟩) (n + s.size) cap) w' ∧ w'.ownsRow B e 1 (.slice (some ⟨g, 0, none⟩) (n + s.size) cap) (n + s.size) (xs ++ strCells s) ∧
      Grew w w' (.slice (some ⟨g0, 0, none⟩) n cap0) (.slice (some ⟨g, 0, none⟩) (n + s.size) cap) := by
  obtain ⟨i, hi, hz0, hz1, hz2⟩ := info_parts hinfo
  obtain ⟨v', w', hr, h2, h3, _⟩ := Lib.run_append_own_string (P := P) w B t u ty e i ht hu hi hz0 hz1 hz2 _ n xs hown s (by unfold maxLen; omega) hb hB
  obtain ⟨g, cap, rfl, _, _⟩ := h2.form (by omega)
  have hm : ∀ g1 n1 cap1, Value.slice (some ⟨g0, 0, none⟩) n cap0 = .slice (some ⟨g1, 0, none⟩) n1 cap1 → ∃ g' n' cap', Value.slice (some ⟨g, 0, none⟩) (n + s.size) cap = .slice (some ⟨g', 0, none⟩) n' cap' ∧ n1 ≤ n' := by
    intro g1 n1 cap1 hv
    injection hv with e1 e2 e3
    exact ⟨g, n + s.size, cap, rfl, by omega⟩
  rcases hown.2 with ⟨hv, _⟩ | ⟨g', cap', cur, hv, hbg, hg, hnc, hcm, hcs, htake⟩
  · cases hv
  · injection hv with e1 _ e3
    injection e1 with e1
    injection e1 with e1
    subst e1 e3
    by_cases hroom : n + s.size ≤ cap0
    · have hcs' : cur.size = cap0 := by simpa using hcs
      have hr2 := Lib.run_append_room_string (P := P) w t u ty e i ht hu hi hz1 g0 n cap0 cur hg s hroom (by omega)
      have e4 := hr.symm.trans hr2
      injection e4 with e4 e5
      injection e4 with e4
      injection e4 with e4
      injection e4 with e4
      subst e4
      refine ⟨g, cap, w', hr, h2, h3, .inl rfl, ?_, hm⟩
      intro g1 n1 cap1 hv _ j hj
      injection hv with e1 e2 _
      injection e1 with e1
      injection e1 with e1
      subst e1 e2
      rw [e5, cell_setRow_same w g j cur _ e (0, 0) hg, cell_of_row w g j cur e (0, 0) hg]
      simp only [List.getElem?_toArray]
      rw [List.append_assoc, List.getElem?_append_left (by simp; omega), List.getElem?_take, if_pos hj]
      simp
    · have holds : ∀ j u, xs[j]? = some u → w.cell? ((⟨g0, 0, none⟩ : Addr).add j) = some u := hown.cells (g := g0) rfl
      have hr2 := Lib.run_append_grow_string (P := P) w t u ty e i (.int .u8 0) ht hu hi hz0 ⟨g0, 0, none⟩ n cap0 xs (by rw [hz1]; simpa using hown.1) holds s (by omega) (by omega) (by rw [hz2]; exact growslice_fits (by omega) (by omega))
      have e4 := hr.symm.trans hr2
      injection e4 with e4 e5
      injection e4 with e4
      injection e4 with e4
      injection e4 with e4
      subst e4
      refine ⟨_, cap, w', hr, h2, h3, .inr ⟨_, rfl, Nat.le_refl _⟩, ?_, hm⟩
      intro g1 n1 cap1 hv hlt j _
      rw [e5]
      exact World.cell?_of_block (Below.heap_alloc w.drew _ g1 hlt)

theorem wpList_app_str {P : Program} (w : World) {ops : Array Oper} {rest : List Oper} {o : Oper} {a : Act} {Q : Exit → Act → World → Prop} (hgd : o.guard = none) (sl x : Operand) (t u : TypeId)
    (ho : o.op = .call { callee := .builtin .append, args := #[sl, x], argTypes := #[t, u] }) (B : Nat) (e : TypeId) (ht : P.underlying t = some (.slice e)) (hu : P.underlying u = some .string) (hinfo : (P.info? e).map (fun i => (i.zero, i.size, i.bytes)) = some (some (.int .u8 0), 1, 1))
    (g0 n cap0 : Nat) (xs : List Value) (hs : a.eval sl = .slice (some ⟨g0, 0, none⟩) n cap0) (hown : w.ownsRow B e 1 (.slice (some ⟨g0, 0, none⟩) n cap0) n xs) (s : ByteArray) (hx : a.eval x = .string s) (h0 : 0 < s.size) (hb : n + s.size ≤ 140737488355328) (hB : B ≤ w.heap.size)
    (h : ∀ g cap w', w'.ownsRow B e 1 (.slice (some ⟨g, 0, none⟩) (n + s.size) cap) (n + s.size) (xs ++ strCells s) → Grew w w' (.slice (some ⟨g0, 0, none⟩) n cap0) (.slice (some ⟨g, 0, none⟩) (n + s.size) cap) → wpList P ops Q rest (a.put o.dst (.slice (some ⟨g, 0, none⟩) (n + s.size) cap)) w') : wpList P ops Q (o :: rest) a w := by
  refine wpList_plain hgd fun K hK => ?_
  obtain ⟨g, cap, w', hr, h2, h3⟩ := run_append_str_at (P := P) w B t u o.type e ht hu hinfo g0 n cap0 xs hown s h0 hb hB
  unfold Oper.wp execOp
  simp only [ho, resolve, invoke, builtin, Sem.run_bind, Sem.run_pure, Result.andThen_ok, List.map_toArray, List.map_cons, List.map_nil, hs, hx, hr]
  exact hK _ _ (h g cap w' h2 h3)

theorem strCells_digits (u : Nat) : strCells ⟨(Lib.decDigits u).toArray⟩ = Lib.byteCells (Lib.decDigits u) := by
  simp [strCells, Lib.byteCells]

theorem uint_small (B n u g0 cap0 : Nat) (hu : u < 100) (xs : List Value) (w : World) (hown : w.ownsRow B 5 1 (.slice (some ⟨g0, 0, none⟩) n cap0) n xs) (hB : B ≤ w.heap.size) (hn : n ≤ 1000000000) :
    Calls Ybad.prog 13 #[.slice (some ⟨g0, 0, none⟩) n cap0, .int .u64 u, .int .i64 10] w fun e w' => ∃ g cap, e = .returned (.slice (some ⟨g, 0, none⟩) (n + (Lib.decDigits u).length) cap) ∧
      w'.ownsRow B 5 1 (.slice (some ⟨g, 0, none⟩) (n + (Lib.decDigits u).length) cap) (n + (Lib.decDigits u).length) (xs ++ Lib.byteCells (Lib.decDigits u)) ∧ Grew w w' (.slice (some ⟨g0, 0, none⟩) n cap0) (.slice (some ⟨g, 0, none⟩) (n + (Lib.decDigits u).length) cap) := by
  have hlen : 0 < (Lib.decDigits u).length ∧ (Lib.decDigits u).length ≤ 20 := by
    rw [Lib.decDigits_length]
    refine ⟨Lib.nDigits_pos u, ?_⟩
    by_cases h10 : u < 10
    · rw [Lib.nDigits_small h10]; omega
    · rw [Lib.nDigits_big h10, Lib.nDigits_small (show u / 10 < 10 by omega)]; omega
  have hsz : (⟨(Lib.decDigits u).toArray⟩ : ByteArray).size = (Lib.decDigits u).length := by simp [ByteArray.size]
  have HS : Hid ((⟨(Lib.decDigits u).toArray⟩ : ByteArray).size = (Lib.decDigits u).length) := hsz
  clear hsz
  obtain ⟨hl0, hl20⟩ := hlen
  go_enter Ybad.func13, Ybad.ntmps13
  go_wp2_with (first
    | (go_at_call 14; refine (small_any u hu _).mono ?_; rintro e w' ⟨rfl, rfl⟩)
    | (at_builtin; go_must (refine wpList_app_str _ rfl _ _ 27 9 rfl B 5 Ybad.underlying27 Ybad.underlying9 info5 g0 n cap0 xs (by rfl) hown ⟨(Lib.decDigits u).toArray⟩ (by rfl) (by rw [HS.out]; exact hl0) (by rw [HS.out]; omega) hB ?_); intro g cap w1 hown1 hgrow1))
  go_ret
  rw [HS.out, strCells_digits] at hown1
  rw [HS.out] at hgrow1
  exact ⟨g, cap, by rw [← HS.out]; rfl, hown1, hgrow1⟩
end Go.Proofs.YbulkdjbkDoor
