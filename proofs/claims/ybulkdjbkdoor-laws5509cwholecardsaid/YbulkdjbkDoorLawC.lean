/-
  THE LAW LawS5509CWhole walked over this dump: make, copy, appendYear, the model, three times bytes.Equal.
-/
import Derived.Test.YbulkdjbkDoorModel
import Derived.Laws.CopyOwn
import Derived.WalkSmall
namespace Go.Proofs.YbulkdjbkDoor
open Go.RowKit

/-- What appendYear and the model both come to at one year: one text T. -/
structure OneText (y : Int) (T : List Int) : Prop where
  pos : 0 < T.length
  le : T.length ≤ 30
  year : ∀ (B n g0 cap0 : Nat) (xs : List Value) (w : World), w.ownsRow B 5 1 (.slice (some ⟨g0, 0, none⟩) n cap0) n xs → B ≤ w.heap.size → n ≤ 10000000 →
    (∀ W, Below B w W → Lib.TabIs Ybad.prog W powName .u64 Lib.pow10Tab) →
    Calls Ybad.prog 7 #[.slice (some ⟨g0, 0, none⟩) n cap0, .int .i64 y] w fun e w' => ∃ g cap, e = .returned (.slice (some ⟨g, 0, none⟩) (n + T.length) cap) ∧
      w'.ownsRow B 5 1 (.slice (some ⟨g, 0, none⟩) (n + T.length) cap) (n + T.length) (xs ++ bytesV T) ∧ Grew w w' (.slice (some ⟨g0, 0, none⟩) n cap0) (.slice (some ⟨g, 0, none⟩) (n + T.length) cap)
  model : ∀ w : World, Calls Ybad.prog 8 #[.int .i64 y] w fun e w' => ∃ g cap, e = .returned (.slice (some ⟨g, 0, none⟩) T.length cap) ∧ w'.ownsRow (w.heap.size + 1) 5 1 (.slice (some ⟨g, 0, none⟩) T.length cap) T.length (bytesV T) ∧ Below w.heap.size w w'

theorem wide_eq (u : Nat) : zeros u + (Lib.decDigits u).length = wide u := by
  have hz := zeros_nd u
  rw [Lib.decDigits_length]
  unfold wide; omega

theorem oneText (y : Int) (h1 : -9223372036854775808 ≤ y) (h2 : y ≤ 9223372036854775807) : ∃ T, OneText y T := by
  by_cases hy : y < 0
  · obtain ⟨u, hu⟩ : ∃ u : Nat, y = -(u : Int) := ⟨(-y).toNat, by omega⟩
    subst hu
    have hw := wide_eq u
    have h20 := nd_le u (by omega)
    have hwb : 4 ≤ wide u ∧ wide u ≤ 20 := by unfold wide; omega
    have hl : ([45] ++ places u (wide u) (wide u)).length = 1 + wide u := by simp [length_places]; omega
    refine ⟨[45] ++ places u (wide u) (wide u), by omega, by omega, ?_, ?_⟩
    · intro B n g0 cap0 xs w hown hB hn hkeep
      refine (year_neg B n g0 cap0 u (by omega) (by omega) xs w hown hB hn hkeep).mono ?_
      rintro e w' ⟨g, cap, rfl, h3, h4⟩
      have e1 : n + 1 + zeros u + (Lib.decDigits u).length = n + ([45] ++ places u (wide u) (wide u)).length := by omega
      rw [e1] at h3 h4 ⊢
      refine ⟨g, cap, rfl, ?_, h4⟩
      rw [bytesV_append, ← List.append_assoc, ← text_eq u, ← List.append_assoc]
      exact h3
    · intro w
      rw [hl]
      exact model_neg u (by omega) (by omega) w
  · obtain ⟨u, hu⟩ : ∃ u : Nat, y = (u : Int) := ⟨y.toNat, by omega⟩
    subst hu
    have hw := wide_eq u
    have h20 := nd_le u (by omega)
    have hwb : 4 ≤ wide u ∧ wide u ≤ 20 := by unfold wide; omega
    have hl : (places u (wide u) (wide u)).length = wide u := length_places _ _ _
    refine ⟨places u (wide u) (wide u), by omega, by omega, ?_, ?_⟩
    · intro B n g0 cap0 xs w hown hB hn hkeep
      refine (year_pos B n g0 cap0 u (by omega) xs w hown hB hn hkeep).mono ?_
      rintro e w' ⟨g, cap, rfl, h3, h4⟩
      have e1 : n + zeros u + (Lib.decDigits u).length = n + (places u (wide u) (wide u)).length := by omega
      rw [e1] at h3 h4 ⊢
      refine ⟨g, cap, rfl, ?_, h4⟩
      rw [← text_eq u, ← List.append_assoc]
      exact h3
    · intro w
      rw [hl]
      have h := model_pos u (by omega) w
      simp only [Nat.zero_add, List.nil_append] at h
      exact h

/-- 'make([]byte, n, k)'. -/
theorem wpList_make_len {P : Program} (w : World) {ops : Array Oper} {rest : List Oper} {o : Oper} {a : Act} {Q : Exit → Act → World → Prop} (hg : o.guard = none) (l c : Operand) (t : TypeId) (hop : o.op = Op.makeSlice t l c)
    (e : TypeId) (ht : P.underlying t = some (.slice e)) (hinfo : (P.info? e).map (fun i => (i.zero, i.size, i.bytes)) = some (some (.int .u8 0), 1, 1))
    (L C : Int) (n k : Nat) (hl : a.eval l = .int .i64 L) (hc : a.eval c = .int .i64 C) (hL : L = (n : Int)) (hC : C = (k : Int)) (hnk : n ≤ k) (hk : k ≤ 140737488355328)
    (h : wpList P ops Q rest (a.put o.dst (.slice (some ⟨w.heap.size, 0, none⟩) n k)) (w.alloc (.cells (List.replicate k (Value.int .u8 0)).toArray e))) : wpList P ops Q (o :: rest) a w := by
  obtain ⟨i, hi, hz0, hz1, hz2⟩ := info_parts hinfo
  subst hL hC
  have hr := run_make (P := P) w t e i (.int .u8 0) ht hi hz0 .i64 .i64 (n : Int) (k : Int) (by omega) (by omega) (by rw [hz2]; omega) (by omega)
  have e1 : madeCells (Value.int .u8 0).cells ((k : Int).toNat * i.size) = (List.replicate k (Value.int .u8 0)).toArray := by
    rw [hz1, Nat.mul_one, Int.toNat_natCast]
    apply Array.ext'
    rw [show (Value.int .u8 0).cells = #[.int .u8 0] from rfl, toList_madeCells_one]
  rw [e1] at hr
  simp only [Int.toNat_natCast] at hr
  refine wpList_plain hg fun K hK => ?_
  unfold Oper.wp
  simp [execOp, hop, hl, hc, hr, Result.andThen]
  exact hK _ _ h

theorem size5 : (Ybad.prog.info? 5).map (·.size) = some 1 := by kernel_rfl

theorem isRow_in {w : World} {a : Option Addr} {len cap : Nat} {zs : List Int} (h : IsRow .u8 w a len cap zs) : BytesIn w a len (zs.take len) := by
  intro hp
  rcases h with ⟨_, rfl, _⟩ | ⟨x, rfl, hl, _, hz, hc, _⟩
  · omega
  · obtain ⟨b, off, rfl, hj⟩ := ints_at hc (by omega)
    refine ⟨b, off, rfl, fun i hi => ?_⟩
    rw [hj i (by omega)]
    simp [List.getD_eq_getElem?_getD, hi]
theorem isRow_len {k : IntKind} {w : World} {a : Option Addr} {len cap : Nat} {zs : List Int} (h : IsRow k w a len cap zs) : (zs.take len).length = len := by
  rcases h with ⟨_, rfl, rfl, rfl⟩ | ⟨x, rfl, hl, _, hz, _⟩
  · rfl
  · simp; omega
theorem BytesIn.later {w w' : World} {p : Option Addr} {n : Nat} {xs : List Int} (h : BytesIn w p n xs) (hb : Below w.heap.size w w') : BytesIn w' p n xs := by
  intro hp
  obtain ⟨b, o, rfl, hc⟩ := h hp
  exact ⟨b, o, rfl, fun i hi => (hb.cell (block_lt_of_cell (hc i hi))).trans (hc i hi)⟩

theorem owns_spliced {w : World} {B g n k : Nat} {cs : List Value} (hB : B ≤ g) (hl : cs.length = n) (hn : n ≤ k) (hk : k ≤ 140737488355328)
    (h : w.heap[g]? = some (.cells (splice (List.replicate k (Value.int .u8 0)) 0 cs).toArray 5 (0, 0))) : w.ownsRow B 5 1 (.slice (some ⟨g, 0, none⟩) n k) n cs := by
  refine ⟨by omega, .inr ⟨g, k, _, rfl, hB, h, hn, by unfold maxLen; omega, ?_, ?_⟩⟩
  · simp [splice]; omega
  · simp [splice, ← hl]

theorem owns_in {w : World} {B g n cap : Nat} {l : List Int} (h : w.ownsRow B 5 1 (.slice (some ⟨g, 0, none⟩) n cap) n (bytesV l)) (o m : Nat) (hom : o + m ≤ n) : BytesIn w (some ⟨g, o, none⟩) m ((l.drop o).take m) := by
  intro _
  refine ⟨g, o, rfl, fun i hi => ?_⟩
  have hl : l.length = n := by have := h.1; simpa [bytesV] using this
  rw [h.cellAt (o + i) (by omega)]
  simp [bytesV, List.getElem?_eq_getElem (show o + i < l.length by omega), List.getD_eq_getElem?_getD, hi]

theorem owns_cap {w : World} {B e g n cap : Nat} {xs : List Value} (h : w.ownsRow B e 1 (.slice (some ⟨g, 0, none⟩) n cap) n xs) : n ≤ cap := by
  rcases h.2 with ⟨h, _⟩ | ⟨g', cap', cur, hv, _, _, hc, _⟩
  · cases h
  · injection hv with _ _ e; omega

/-- 'copy(c, b)', c the row of k zeros that has just been made, b as it came. -/
theorem run_copy_made (w : World) (a0 : Option Addr) (len0 cap0 k : Nat) (bs : List Int) (hlb : bs.length = len0) (hbi : BytesIn w a0 len0 bs) (hk : len0 ≤ k) :
    ∃ w1, (Builtin.copy_ #[27, 27] 3 #[.slice (some ⟨w.heap.size, 0, none⟩) len0 k, .slice a0 len0 cap0]).run Ybad.prog (w.alloc (.cells (Array.replicate k (Value.int .u8 0)) 5)) = .ok (.int .i64 len0) w1 ∧
      w1.heap[w.heap.size]? = some (.cells (splice (List.replicate k (Value.int .u8 0)) 0 (bytesV bs)).toArray 5 (0, 0)) ∧ Below w.heap.size w w1 := by
  have hb0 : Below w.heap.size w (w.alloc (.cells (Array.replicate k (Value.int .u8 0)) 5)) := (Below.refl _ _).alloc (Nat.le_refl _) _
  by_cases h0 : len0 = 0
  · subst h0
    obtain rfl : bs = [] := List.eq_nil_of_length_eq_zero hlb
    have hr := run_copy_none (P := Ybad.prog) (w.alloc (.cells (Array.replicate k (Value.int .u8 0)) 5)) 27 27 3 5 (some ⟨w.heap.size, 0, none⟩) a0 0 k 0 cap0 Ybad.underlying27 size5 rfl
    refine ⟨_, hr, ?_, hb0⟩
    rw [heap_alloc_new]
    simp [splice, bytesV]
  · obtain ⟨b, o, rfl, hc⟩ := hbi (by omega)
    have hr := run_copy_row (P := Ybad.prog) (w.alloc (.cells (Array.replicate k (Value.int .u8 0)) 5)) 27 27 3 5 w.heap.size 0 len0 k ⟨b, o, none⟩ len0 cap0 (Array.replicate k (Value.int .u8 0)) 5 (bytesV bs) Ybad.underlying27 size5
      (heap_alloc_new w _) (by rw [length_bytesV, hlb]; exact (Nat.min_self _).symm) (by
        intro j v hj
        have hjl : j < bs.length := by
          have := (List.getElem?_eq_some_iff.1 hj).1
          rwa [length_bytesV] at this
        have e1 : (bytesV bs)[j]? = some (.int .u8 (bs.getD j 0)) := by simp [bytesV, List.getElem?_eq_getElem hjl]
        rw [e1] at hj
        cases hj
        have hcj := hc j (by omega)
        rw [← Go.WideShapes.add_plain] at hcj
        exact (hb0.cell (block_lt_of_cell hcj)).trans hcj) (by simp [length_bytesV, hlb]; omega) (ints_oneCell .u8 bs)
    refine ⟨_, by rw [hr, length_bytesV, hlb]; rfl, ?_, below_setRow hb0 (Nat.le_refl _) _⟩
    rw [setRow_heap _ w.heap.size _ _ 5 (0, 0) (heap_alloc_new w _)]
    simp [splice, length_bytesV, hlb]

set_option maxHeartbeats 4000000 in
theorem law_any (a0 : Option Addr) (len0 cap0 : Nat) (z0 : List Int) (y : Int) (x : Nat) (w : World) (h0 : IsRow .u8 w a0 len0 cap0 z0) (hn : len0 ≤ 1048576) (hx : x < 256)
    (T : List Int) (hT : OneText y T) (htab : ∀ W, Below w.heap.size w W → Lib.TabIs Ybad.prog W powName .u64 Lib.pow10Tab) :
    Calls Ybad.prog 4 #[.slice a0 len0 cap0, .int .i64 y, .int .u8 x] w fun e w' => e = .returned (.bool true) ∧ Below w.heap.size w w' := by
  have hd : decide (1048576 < (len0 : Int)) = false := by simp; omega
  have hlb := isRow_len h0
  have hbi := isRow_in h0
  obtain ⟨bs, hbs⟩ : ∃ bs, bs = z0.take len0 := ⟨_, rfl⟩
  rw [← hbs] at hlb hbi
  clear hbs
  have hT1 := hT.pos
  have hT2 := hT.le
  go_enter Ybad.func4, Ybad.ntmps4
  obtain ⟨w1, hcp, hrow1, hb1⟩ := run_copy_made w a0 len0 cap0 (len0 + x % 32) bs hlb hbi (by omega)
  have hown1 := owns_spliced (B := w.heap.size) (Nat.le_refl _) (by rw [length_bytesV, hlb]) (by omega) (by omega) hrow1
  have hz1 := hb1.size
  clear hrow1
  go_wp2_with (first
    | (at_make; go_must (refine wpList_make_len w rfl _ _ 27 rfl 5 Ybad.underlying27 info5 _ _ len0 (len0 + x % 32) (by rfl) (by rfl) (by omega) (by omega) (by omega) (by omega) ?_)))
  clear hcp
  refine (hT.year w.heap.size len0 w.heap.size (len0 + x % 32) _ _ hown1 hz1 (by omega) (fun W hW => htab W (hb1.trans hW))).mono ?_
  rintro e w2 ⟨g, cap, rfl, hown2, hgrow2⟩
  have hb2 : Below w.heap.size w w2 := hb1.trans (hgrow2.below hz1 hown1)
  have hz2 := hb2.size
  have hg2 := hown2.lt g rfl
  have hcap2 := owns_cap hown2
  have hck := fun j hj => hgrow2.kept w.heap.size len0 _ rfl ((hown1.lt w.heap.size rfl).2) j hj
  have hci : BytesIn w2 (some ⟨w.heap.size, 0, none⟩) len0 bs := by
    intro hp
    refine ⟨w.heap.size, 0, rfl, fun i hi => ?_⟩
    rw [Nat.zero_add, hck i hi, hown1.cellAt i (by omega)]
    simp [bytesV, List.getElem?_eq_getElem (show i < bs.length by omega)]
  have hsz2 : w.heap.size < w2.heap.size := by have := (hown1.lt w.heap.size rfl).2; have := hgrow2.size; omega
  clear hgrow2 hown1 hck hb1
  go_wp2_with fail
  refine (hT.model w2).mono ?_
  rintro e w3 ⟨g3, cap3, rfl, hown3, hb3⟩
  have hb03 : Below w.heap.size w w3 := hb2.trans (hb3.mono hz2)
  rw [← bytesV_append] at hown2
  have hr1 : BytesIn w3 (some ⟨g, 0, none⟩) len0 bs := by
    have h := (owns_in hown2 0 len0 (by omega)).later hb3
    rwa [List.drop_zero, List.take_append_of_le_length (by omega), List.take_of_length_le (by omega)] at h
  have hr2 : BytesIn w3 (some ⟨g, len0, none⟩) T.length T := by
    have h := (owns_in hown2 len0 T.length (by omega)).later hb3
    rwa [List.drop_append_of_le_length (by omega), List.drop_of_length_le (by omega), List.nil_append, List.take_of_length_le (Nat.le_refl _)] at h
  have hr3 : BytesIn w3 (some ⟨g3, 0, none⟩) T.length T := by
    have h := owns_in hown3 0 T.length (by omega)
    rwa [List.drop_zero, List.take_of_length_le (Nat.le_refl _)] at h
  have hr4 : BytesIn w3 (some ⟨w.heap.size, 0, none⟩) len0 bs := hci.later hb3
  have hr5 : BytesIn w3 a0 len0 bs := by
    intro hp
    obtain ⟨b, o, rfl, hc⟩ := hbi hp
    exact ⟨b, o, rfl, fun i hi => (hb03.cell (block_lt_of_cell (hc i hi))).trans (hc i hi)⟩
  have i1 : (len0 : Int) ≤ (len0 : Int) + (T.length : Int) := by omega
  have i2 : (len0 : Int) ≤ (cap : Int) := by omega
  have i3 : ¬ cap = len0 := by omega
  clear hown2 hown3 hbi hci hb2 hb3 h0 hT htab
  go_wp2_with fail
  refine (equal_same _ _ len0 cap cap0 bs w3 hlb hr1 hr5).mono ?_
  rintro e w4 ⟨rfl, rfl⟩
  go_wp2_with fail
  refine (equal_same _ _ T.length _ cap3 T _ rfl hr2 hr3).mono ?_
  rintro e w5 ⟨rfl, rfl⟩
  go_wp2_with fail
  refine (equal_same _ _ len0 _ cap0 bs _ hlb hr4 hr5).mono ?_
  rintro e w6 ⟨rfl, rfl⟩
  go_wp2_with fail
  go_ret
  exact ⟨rfl, hb03⟩

theorem law_long (a0 : Option Addr) (len0 cap0 : Nat) (y x : Int) (w : World) (hn : ¬ len0 ≤ 1048576) :
    Calls Ybad.prog 4 #[.slice a0 len0 cap0, .int .i64 y, .int .u8 x] w fun e w' => e = .returned (.bool true) ∧ Below w.heap.size w w' := by
  go_enter Ybad.func4, Ybad.ntmps4
  go_wp2_with fail
  go_ret
  exact ⟨rfl, Below.refl _ _⟩
end Go.Proofs.YbulkdjbkDoor
