/-
  LAWS FOR THE WALK over rows of bytes: append of what came in (empty or not), make, copy.
-/
import Derived.Test.YbulkdjaiDoorBEqual
import Derived.Laws.CopyOwn
import Derived.WalkSmall
import Derived.Lib.SmallJoins
namespace Go.Proofs.YbulkdjaiDoor.B
open Go.RowKit

theorem hide {p : Prop} (h : p) : Hid p := h

theorem run_append_zero {P : Program} {w : World} (base : Nat) (t ty e : TypeId) (i : TypeInfo) (ht : P.underlying t = some (.slice e)) (hi : P.info? e = some i)
    (g n cap : Nat) (xs : List Value) (hown : w.ownsRow base e 1 (.slice (some ⟨g, 0, none⟩) n cap) n xs) (a0 : Option Addr) (c : Nat) :
    (Builtin.append_ #[t, t] ty #[.slice (some ⟨g, 0, none⟩) n cap, .slice a0 0 c]).run P w = .ok (.slice (some ⟨g, 0, none⟩) n cap) w := by
  rcases hown.2 with ⟨h, _⟩ | ⟨g', cap', cur, hv, _, _, hnc, _⟩
  · cases h
  · injection hv with h1 h2 h3
    subst h3
    cases a0 with
    | none => simp [Builtin.append_, run_underlying ht, sizeOf, typeInfo, hi, Builtin.lenOf, Builtin.firstCells, hnc, storeCells]
    | some a => simp [Builtin.append_, run_underlying ht, sizeOf, typeInfo, hi, Builtin.lenOf, Builtin.firstCells, hnc, storeCells, loadCells, loadCellsFrom]

/-- 'append(s, b...)', b as it came, empty or not. -/
theorem wpList_app_in {P : Program} (w : World) {ops : Array Oper} {rest : List Oper} {o : Oper} {a : Act} {Q : Exit → Act → World → Prop} (hgd : o.guard = none) (s x : Operand) (t : TypeId)
    (ho : o.op = .call { callee := .builtin .append, args := #[s, x], argTypes := #[t, t] })
    (B : Nat) (e : TypeId) (ht : P.underlying t = some (.slice e)) (hinfo : (P.info? e).map (fun i => (i.zero, i.size, i.bytes)) = some (some (.int .u8 0), 1, 1))
    (g0 n cap0 : Nat) (xs : List Value) (hs : a.eval s = .slice (some ⟨g0, 0, none⟩) n cap0) (hown : w.ownsRow B e 1 (.slice (some ⟨g0, 0, none⟩) n cap0) n xs) (a0 : Option Addr) (m c : Nat) (bs : List Int) (hx : a.eval x = .slice a0 m c) (hl : bs.length = m) (hb : BytesIn w a0 m bs)
    (hbd : n + m ≤ 140737488355328) (hB : B ≤ w.heap.size)
    (h : ∀ g cap w', w'.ownsRow B e 1 (.slice (some ⟨g, 0, none⟩) (n + m) cap) (n + m) (xs ++ bytesV bs) → Grew w w' (.slice (some ⟨g0, 0, none⟩) n cap0) (.slice (some ⟨g, 0, none⟩) (n + m) cap) → wpList P ops Q rest (a.put o.dst (.slice (some ⟨g, 0, none⟩) (n + m) cap)) w') :
    wpList P ops Q (o :: rest) a w := by
  by_cases hm : 0 < m
  · obtain ⟨b, off, rfl, hc⟩ := hb hm
    refine wpList_app_row w hgd s x t ho B e ht hinfo g0 n cap0 xs hs hown ⟨b, off, none⟩ m c (bytesV bs) hx (by rw [length_bytesV, hl]) ?_ (ints_oneCell .u8 bs) hm hbd hB h
    intro j u hj
    have hjl : j < bs.length := by
      have := (List.getElem?_eq_some_iff.1 hj).1
      rwa [length_bytesV] at this
    have e1 : (bytesV bs)[j]? = some (.int .u8 (bs.getD j 0)) := by simp [bytesV, List.getElem?_eq_getElem hjl]
    rw [e1] at hj
    cases hj
    rw [Go.WideShapes.add_plain]
    exact hc j (by omega)
  · obtain rfl : m = 0 := by omega
    obtain rfl : bs = [] := List.eq_nil_of_length_eq_zero hl
    obtain ⟨i, hi, _, _, _⟩ := info_parts hinfo
    have hr := run_append_zero (P := P) (w := w) B t o.type e i ht hi g0 n cap0 xs hown a0 c
    refine wpList_plain hgd fun K hK => ?_
    unfold Oper.wp execOp
    simp only [ho, resolve, invoke, builtin, Sem.run_bind, Sem.run_pure, Result.andThen_ok, List.map_toArray, List.map_cons, List.map_nil, hs, hx, hr]
    refine hK _ _ (h g0 cap0 w ?_ (Grew.refl _ _))
    simpa [bytesV] using hown

/-- 'make([]byte, n, k)'. -/
theorem wpList_make_len {P : Program} (w : World) {ops : Array Oper} {rest : List Oper} {o : Oper} {a : Act} {Q : Exit → Act → World → Prop} (hg : o.guard = none) (l c : Operand) (t : TypeId) (hop : o.op = Op.makeSlice t l c)
    (e : TypeId) (ht : P.underlying t = some (.slice e)) (hinfo : (P.info? e).map (fun i => (i.zero, i.size, i.bytes)) = some (some (.int .u8 0), 1, 1))
    (L C : Int) (n k : Nat) (hl : a.eval l = .int .i64 L) (hc : a.eval c = .int .i64 C) (hL : L = (n : Int)) (hC : C = (k : Int)) (hnk : n ≤ k) (hk : k ≤ 140737488355328)
    (h : wpList P ops Q rest (a.put o.dst (.slice (some ⟨w.heap.size, 0, none⟩) n k)) (w.alloc (.cells (List.replicate k (Value.int .u8 0)).toArray e))) : wpList P ops Q (o :: rest) a w := by
  obtain ⟨i, hi, hz0, hz1, hz2⟩ := info_parts hinfo
  subst hL hC
  have hr := run_make (P := P) w t e i (.int .u8 0) ht hi hz0 .i64 .i64 (n : Int) (k : Int) (by omega) (by omega) (by rw [hz2]; omega) (by omega)
  have e1 : madeCells (Value.int .u8 0).cells ((k : Int).toNat * i.size) = (List.replicate k (Value.int .u8 0)).toArray := by
    rw [hz1, Nat.mul_one, Int.toNat_natCast]
    apply Array.ext'
    rw [show (Value.int .u8 0).cells = #[.int .u8 0] from rfl, toList_madeCells_one]
  rw [e1] at hr
  simp only [Int.toNat_natCast] at hr
  refine wpList_plain hg fun K hK => ?_
  unfold Oper.wp
  simp [execOp, hop, hl, hc, hr, Result.andThen]
  exact hK _ _ h

/-- A row of zeros that has just been made, none of them used. -/
theorem owns_made (w : World) (k : Nat) (hk : k ≤ 140737488355328) : (w.alloc (.cells (List.replicate k (Value.int .u8 0)).toArray 5)).ownsRow w.heap.size 5 1 (.slice (some ⟨w.heap.size, 0, none⟩) 0 k) 0 [] :=
  ⟨rfl, .inr ⟨w.heap.size, k, _, rfl, Nat.le_refl _, heap_alloc_new w _, by omega, by unfold maxLen; omega, by simp, by simp⟩⟩

theorem size5 : (Ybad.prog.info? 5).map (·.size) = some 1 := by kernel_rfl

theorem isRow_in {w : World} {a : Option Addr} {len cap : Nat} {zs : List Int} (h : IsRow .u8 w a len cap zs) : BytesIn w a len (zs.take len) := by
  intro hp
  rcases h with ⟨_, rfl, _⟩ | ⟨x, rfl, hl, _, hz, hc, _⟩
  · omega
  · obtain ⟨b, off, rfl, hj⟩ := ints_at hc (by omega)
    refine ⟨b, off, rfl, fun i hi => ?_⟩
    rw [hj i (by omega)]
    simp [List.getD_eq_getElem?_getD, hi]
theorem isRow_len {k : IntKind} {w : World} {a : Option Addr} {len cap : Nat} {zs : List Int} (h : IsRow k w a len cap zs) : (zs.take len).length = len := by
  rcases h with ⟨_, rfl, rfl, rfl⟩ | ⟨x, rfl, hl, _, hz, _⟩
  · rfl
  · simp; omega
theorem BytesIn.later {w w' : World} {p : Option Addr} {n : Nat} {xs : List Int} (h : BytesIn w p n xs) (hb : Below w.heap.size w w') : BytesIn w' p n xs := by
  intro hp
  obtain ⟨b, o, rfl, hc⟩ := h hp
  exact ⟨b, o, rfl, fun i hi => (hb.cell (block_lt_of_cell (hc i hi))).trans (hc i hi)⟩

theorem owns_spliced {w : World} {B g n k : Nat} {cs : List Value} (hB : B ≤ g) (hl : cs.length = n) (hn : n ≤ k) (hk : k ≤ 140737488355328)
    (h : w.heap[g]? = some (.cells (splice (List.replicate k (Value.int .u8 0)) 0 cs).toArray 5 (0, 0))) : w.ownsRow B 5 1 (.slice (some ⟨g, 0, none⟩) n k) n cs := by
  refine ⟨by omega, .inr ⟨g, k, _, rfl, hB, h, hn, by unfold maxLen; omega, ?_, ?_⟩⟩
  · simp [splice]; omega
  · simp [splice, ← hl]

theorem owns_in {w : World} {B g n cap : Nat} {l : List Int} (h : w.ownsRow B 5 1 (.slice (some ⟨g, 0, none⟩) n cap) n (bytesV l)) : BytesIn w (some ⟨g, 0, none⟩) n l := by
  intro _
  refine ⟨g, 0, rfl, fun i hi => ?_⟩
  have hl : l.length = n := by have := h.1; simpa [bytesV] using this
  rw [Nat.zero_add, h.cellAt i (by omega)]
  simp [bytesV, List.getElem?_eq_getElem (show i < l.length by omega)]

/-- 'copy(c, b)', c the row of k zeros that has just been made, b as it came. -/
theorem run_copy_made (w : World) (a0 : Option Addr) (len0 cap0 k : Nat) (bs : List Int) (hlb : bs.length = len0) (hbi : BytesIn w a0 len0 bs) (hk : len0 ≤ k) :
    ∃ w1, (Builtin.copy_ #[25, 25] 3 #[.slice (some ⟨w.heap.size, 0, none⟩) len0 k, .slice a0 len0 cap0]).run Ybad.prog (w.alloc (.cells (Array.replicate k (Value.int .u8 0)) 5)) = .ok (.int .i64 len0) w1 ∧
      w1.heap[w.heap.size]? = some (.cells (splice (List.replicate k (Value.int .u8 0)) 0 (bytesV bs)).toArray 5 (0, 0)) ∧ Below w.heap.size w w1 := by
  have hb0 : Below w.heap.size w (w.alloc (.cells (Array.replicate k (Value.int .u8 0)) 5)) := (Below.refl _ _).alloc (Nat.le_refl _) _
  by_cases h0 : len0 = 0
  · subst h0
    obtain rfl : bs = [] := List.eq_nil_of_length_eq_zero hlb
    have hr := run_copy_none (P := Ybad.prog) (w.alloc (.cells (Array.replicate k (Value.int .u8 0)) 5)) 25 25 3 5 (some ⟨w.heap.size, 0, none⟩) a0 0 k 0 cap0 Ybad.underlying25 size5 rfl
    refine ⟨_, hr, ?_, hb0⟩
    rw [heap_alloc_new]
    simp [splice, bytesV]
  · obtain ⟨b, o, rfl, hc⟩ := hbi (by omega)
    have hr := run_copy_row (P := Ybad.prog) (w.alloc (.cells (Array.replicate k (Value.int .u8 0)) 5)) 25 25 3 5 w.heap.size 0 len0 k ⟨b, o, none⟩ len0 cap0 (Array.replicate k (Value.int .u8 0)) 5 (bytesV bs) Ybad.underlying25 size5
      (heap_alloc_new w _) (by rw [length_bytesV, hlb]; exact (Nat.min_self _).symm) (by
        intro j v hj
        have hjl : j < bs.length := by
          have := (List.getElem?_eq_some_iff.1 hj).1
          rwa [length_bytesV] at this
        have e1 : (bytesV bs)[j]? = some (.int .u8 (bs.getD j 0)) := by simp [bytesV, List.getElem?_eq_getElem hjl]
        rw [e1] at hj
        cases hj
        have hcj := hc j (by omega)
        rw [← Go.WideShapes.add_plain] at hcj
        exact (hb0.cell (block_lt_of_cell hcj)).trans hcj) (by simp [length_bytesV, hlb]; omega) (ints_oneCell .u8 bs)
    refine ⟨_, by rw [hr, length_bytesV, hlb]; rfl, ?_, below_setRow hb0 (Nat.le_refl _) _⟩
    rw [setRow_heap _ w.heap.size _ _ 5 (0, 0) (heap_alloc_new w _)]
    simp [splice, length_bytesV, hlb]

end Go.Proofs.YbulkdjaiDoor.B
