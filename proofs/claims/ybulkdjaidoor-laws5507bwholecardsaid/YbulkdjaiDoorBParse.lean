/-
  ParseViewChange, walked over this dump.
-/
import Derived.Test.YbulkdjaiDoorBItems
import Derived.Deep.DeepCutAuto
import Derived.Deep.CutRange
namespace Go.Proofs.YbulkdjaiDoor.B
open Go.RowKit

/-- Block g holds the bytes l from its beginning. -/
def Reads (w : World) (g : Nat) (l : List Int) : Prop := ∀ j, j < l.length → w.cell? ⟨g, j, none⟩ = some (.int .u8 (l.getD j 0))

/-- What is kept from call to call: the bytes; what lay below B0 at w0; one own block R. -/
structure Env (w0 : World) (B0 g : Nat) (l : List Int) (R : Nat) (X : Obj) (E : Value) (w : World) : Prop where
  reads : Reads w g l
  hg : g < B0
  below : Below B0 w0 w
  size : R < w.heap.size
  hR : B0 ≤ R
  row : w.heap[R]? = some X
  err : w.cell? ⟨0, 0, none⟩ = some E

theorem Env.step {w0 : World} {B0 g : Nat} {l : List Int} {R : Nat} {X : Obj} {E : Value} {w w' : World} (h : Env w0 B0 g l R X E w) (hb : Below w.heap.size w w') : Env w0 B0 g l R X E w' := by
  obtain ⟨h1, h2, h3, h4, h5, h6, h7⟩ := h
  have hs := hb.size
  refine ⟨fun j hj => (hb.cell (p := ⟨g, j, none⟩) (by show g < _; omega)).trans (h1 j hj), h2, h3.trans (hb.mono (by omega)), by omega, h5, (hb.block R h4).trans h6, (hb.cell (p := ⟨0, 0, none⟩) (by show 0 < _; omega)).trans h7⟩
theorem Env.drew {w0 : World} {B0 g : Nat} {l : List Int} {R : Nat} {X : Obj} {E : Value} {w : World} (h : Env w0 B0 g l R X E w) : Env w0 B0 g l R X E w.drew := h.step ⟨rfl, rfl, rfl, Nat.le_refl _, fun _ _ => rfl⟩

theorem Env.alloc {w0 : World} {B0 g : Nat} {l : List Int} {R : Nat} {X : Obj} {E : Value} {w : World} (h : Env w0 B0 g l R X E w) (o : Obj) : Env w0 B0 g l R X E (w.alloc o) := h.step ((Below.refl _ _).alloc (Nat.le_refl _) o)
theorem Env.stepT {w0 : World} {B0 g : Nat} {l : List Int} {R : Nat} {X : Obj} {E : Value} {w w' : World} {T : Nat} (h : Env w0 B0 g l R X E w) (hb : Below T w w') (hT : R < T) : Env w0 B0 g l R X E w' := by
  obtain ⟨h1, h2, h3, h4, h5, h6, h7⟩ := h
  have hs := hb.size
  refine ⟨fun j hj => (hb.cell (p := ⟨g, j, none⟩) (by show g < _; omega)).trans (h1 j hj), h2, h3.trans (hb.mono (by omega)), by omega, h5, (hb.block R hT).trans h6, (hb.cell (p := ⟨0, 0, none⟩) (by show 0 < _; omega)).trans h7⟩
theorem below_eight (W : World) (T : Nat) (v0 v1 v2 v3 v4 v5 v6 v7 : Value) : Below T W ((((((((W.setCell ⟨T, 0, none⟩ v0).setCell ⟨T, 1, none⟩ v1).setCell ⟨T, 2, none⟩ v2).setCell ⟨T, 3, none⟩ v3).setCell ⟨T, 4, none⟩ v4).setCell ⟨T, 5, none⟩ v5).setCell ⟨T, 6, none⟩ v6).setCell ⟨T, 7, none⟩ v7) :=
  ((((((((Below.refl T W).setCell (p := ⟨T, 0, none⟩) (Nat.le_refl _) v0).setCell (p := ⟨T, 1, none⟩) (Nat.le_refl _) v1).setCell (p := ⟨T, 2, none⟩) (Nat.le_refl _) v2).setCell (p := ⟨T, 3, none⟩) (Nat.le_refl _) v3).setCell (p := ⟨T, 4, none⟩) (Nat.le_refl _) v4).setCell (p := ⟨T, 5, none⟩) (Nat.le_refl _) v5).setCell (p := ⟨T, 6, none⟩) (Nat.le_refl _) v6).setCell (p := ⟨T, 7, none⟩) (Nat.le_refl _) v7
theorem eight_other {W : World} {T k : Nat} (hk : k ≠ T) (v0 v1 v2 v3 v4 v5 v6 v7 : Value) :
    ((((((((W.setCell ⟨T, 0, none⟩ v0).setCell ⟨T, 1, none⟩ v1).setCell ⟨T, 2, none⟩ v2).setCell ⟨T, 3, none⟩ v3).setCell ⟨T, 4, none⟩ v4).setCell ⟨T, 5, none⟩ v5).setCell ⟨T, 6, none⟩ v6).setCell ⟨T, 7, none⟩ v7).heap[k]? = W.heap[k]? := by
  rw [Below.heap_setCell _ _ _ _ hk, Below.heap_setCell _ _ _ _ hk, Below.heap_setCell _ _ _ _ hk, Below.heap_setCell _ _ _ _ hk, Below.heap_setCell _ _ _ _ hk, Below.heap_setCell _ _ _ _ hk, Below.heap_setCell _ _ _ _ hk, Below.heap_setCell _ _ _ _ hk]
theorem heap_drew (W : World) (k : Nat) : W.drew.heap[k]? = W.heap[k]? := rfl
theorem stays {w w' : World} (hb : Below w.heap.size w w') : ∀ (T : Nat) (Y : Obj), w.heap[T]? = some Y → w'.heap[T]? = some Y := fun T _ h => (hb.block T (Array.getElem?_eq_some_iff.1 h).1).trans h

/-- Eight cells of one block. -/
theorem eight_at {W : World} {T : Nat} {v0 v1 v2 v3 v4 v5 v6 v7 : Value} (h : W.heap[T]? = some (.cells #[v0, v1, v2, v3, v4, v5, v6, v7] 31 (0, 0))) :
    (W.cell? ⟨T, 0, none⟩ = some v0 ∧ W.cell? ⟨T, 1, none⟩ = some v1 ∧ W.cell? ⟨T, 2, none⟩ = some v2 ∧ W.cell? ⟨T, 3, none⟩ = some v3 ∧ W.cell? ⟨T, 4, none⟩ = some v4 ∧ W.cell? ⟨T, 5, none⟩ = some v5 ∧ W.cell? ⟨T, 6, none⟩ = some v6 ∧ W.cell? ⟨T, 7, none⟩ = some v7) ∧
    (∀ j, W.frozen? ⟨T, j, none⟩ = false) :=
  ⟨⟨Joins.cell_of_block h 0, Joins.cell_of_block h 1, Joins.cell_of_block h 2, Joins.cell_of_block h 3, Joins.cell_of_block h 4, Joins.cell_of_block h 5, Joins.cell_of_block h 6, Joins.cell_of_block h 7⟩, fun j => Joins.unfrozen_of_block h j⟩
theorem eight_set {W : World} {T : Nat} {x0 x1 x2 x3 x4 x5 x6 x7 : Value} (h : W.heap[T]? = some (.cells #[x0, x1, x2, x3, x4, x5, x6, x7] 31 (0, 0))) (v0 v1 v2 v3 v4 v5 v6 v7 : Value) :
    ((((((((W.setCell ⟨T, 0, none⟩ v0).setCell ⟨T, 1, none⟩ v1).setCell ⟨T, 2, none⟩ v2).setCell ⟨T, 3, none⟩ v3).setCell ⟨T, 4, none⟩ v4).setCell ⟨T, 5, none⟩ v5).setCell ⟨T, 6, none⟩ v6).setCell ⟨T, 7, none⟩ v7).heap[T]? = some (.cells #[v0, v1, v2, v3, v4, v5, v6, v7] 31 (0, 0)) := by
  have e0 : (W.setCell ⟨T, 0, none⟩ v0).heap[T]? = some (.cells #[v0, x1, x2, x3, x4, x5, x6, x7] 31 (0, 0)) := by rw [Joins.block_setCell (i := 0) h v0]; rfl
  have e1 : ((W.setCell ⟨T, 0, none⟩ v0).setCell ⟨T, 1, none⟩ v1).heap[T]? = some (.cells #[v0, v1, x2, x3, x4, x5, x6, x7] 31 (0, 0)) := by rw [Joins.block_setCell (i := 1) e0 v1]; rfl
  have e2 : (((W.setCell ⟨T, 0, none⟩ v0).setCell ⟨T, 1, none⟩ v1).setCell ⟨T, 2, none⟩ v2).heap[T]? = some (.cells #[v0, v1, v2, x3, x4, x5, x6, x7] 31 (0, 0)) := by rw [Joins.block_setCell (i := 2) e1 v2]; rfl
  have e3 : ((((W.setCell ⟨T, 0, none⟩ v0).setCell ⟨T, 1, none⟩ v1).setCell ⟨T, 2, none⟩ v2).setCell ⟨T, 3, none⟩ v3).heap[T]? = some (.cells #[v0, v1, v2, v3, x4, x5, x6, x7] 31 (0, 0)) := by rw [Joins.block_setCell (i := 3) e2 v3]; rfl
  have e4 : (((((W.setCell ⟨T, 0, none⟩ v0).setCell ⟨T, 1, none⟩ v1).setCell ⟨T, 2, none⟩ v2).setCell ⟨T, 3, none⟩ v3).setCell ⟨T, 4, none⟩ v4).heap[T]? = some (.cells #[v0, v1, v2, v3, v4, x5, x6, x7] 31 (0, 0)) := by rw [Joins.block_setCell (i := 4) e3 v4]; rfl
  have e5 : ((((((W.setCell ⟨T, 0, none⟩ v0).setCell ⟨T, 1, none⟩ v1).setCell ⟨T, 2, none⟩ v2).setCell ⟨T, 3, none⟩ v3).setCell ⟨T, 4, none⟩ v4).setCell ⟨T, 5, none⟩ v5).heap[T]? = some (.cells #[v0, v1, v2, v3, v4, v5, x6, x7] 31 (0, 0)) := by rw [Joins.block_setCell (i := 5) e4 v5]; rfl
  have e6 : (((((((W.setCell ⟨T, 0, none⟩ v0).setCell ⟨T, 1, none⟩ v1).setCell ⟨T, 2, none⟩ v2).setCell ⟨T, 3, none⟩ v3).setCell ⟨T, 4, none⟩ v4).setCell ⟨T, 5, none⟩ v5).setCell ⟨T, 6, none⟩ v6).heap[T]? = some (.cells #[v0, v1, v2, v3, v4, v5, v6, x7] 31 (0, 0)) := by rw [Joins.block_setCell (i := 6) e5 v6]; rfl
  have e7 : ((((((((W.setCell ⟨T, 0, none⟩ v0).setCell ⟨T, 1, none⟩ v1).setCell ⟨T, 2, none⟩ v2).setCell ⟨T, 3, none⟩ v3).setCell ⟨T, 4, none⟩ v4).setCell ⟨T, 5, none⟩ v5).setCell ⟨T, 6, none⟩ v6).setCell ⟨T, 7, none⟩ v7).heap[T]? = some (.cells #[v0, v1, v2, v3, v4, v5, v6, v7] 31 (0, 0)) := by rw [Joins.block_setCell (i := 7) e6 v7]; rfl
  exact e7

/-- k bytes from o on, as a number. -/
def numAt (l : List Int) (o k : Nat) : Int := beN ((l.drop o).take k)

theorem take8 (l : List Int) (o : Nat) (h : o + 8 ≤ l.length) : (l.drop o).take 8 = [l.getD o 0, l.getD (o + 1) 0, l.getD (o + 2) 0, l.getD (o + 3) 0, l.getD (o + 4) 0, l.getD (o + 5) 0, l.getD (o + 6) 0, l.getD (o + 7) 0] := by
  apply List.ext_getElem?
  intro i
  by_cases hi : i < 8
  · rw [List.getElem?_take, if_pos hi, List.getElem?_drop]
    rcases (show i = 0 ∨ i = 1 ∨ i = 2 ∨ i = 3 ∨ i = 4 ∨ i = 5 ∨ i = 6 ∨ i = 7 by omega) with rfl | rfl | rfl | rfl | rfl | rfl | rfl | rfl <;> simp [show o < l.length by omega, show o + 1 < l.length by omega, show o + 2 < l.length by omega, show o + 3 < l.length by omega, show o + 4 < l.length by omega, show o + 5 < l.length by omega, show o + 6 < l.length by omega, show o + 7 < l.length by omega]
  · rw [List.getElem?_eq_none (by simp; omega), List.getElem?_eq_none (by simp; omega)]
theorem take4 (l : List Int) (o : Nat) (h : o + 4 ≤ l.length) : (l.drop o).take 4 = [l.getD o 0, l.getD (o + 1) 0, l.getD (o + 2) 0, l.getD (o + 3) 0] := by
  apply List.ext_getElem?
  intro i
  by_cases hi : i < 4
  · rw [List.getElem?_take, if_pos hi, List.getElem?_drop]
    rcases (show i = 0 ∨ i = 1 ∨ i = 2 ∨ i = 3 by omega) with rfl | rfl | rfl | rfl <;> simp [show o < l.length by omega, show o + 1 < l.length by omega, show o + 2 < l.length by omega, show o + 3 < l.length by omega]
  · rw [List.getElem?_eq_none (by simp; omega), List.getElem?_eq_none (by simp; omega)]
theorem take2 (l : List Int) (o : Nat) (h : o + 2 ≤ l.length) : (l.drop o).take 2 = [l.getD o 0, l.getD (o + 1) 0] := by
  apply List.ext_getElem?
  intro i
  by_cases hi : i < 2
  · rw [List.getElem?_take, if_pos hi, List.getElem?_drop]
    rcases (show i = 0 ∨ i = 1 by omega) with rfl | rfl <;> simp [show o < l.length by omega, show o + 1 < l.length by omega]
  · rw [List.getElem?_eq_none (by simp; omega), List.getElem?_eq_none (by simp; omega)]

theorem ret_int {k : IntKind} {a b : Int} (h : a = b) : Ending.returned (.int k a) = .returned (.int k b) := by rw [h]

section
variable {w0 : World} {B0 g : Nat} {l : List Int} {R : Nat} {X : Obj} {E : Value} {w : World}
theorem u64_at (o c : Nat) (hby : Byt l) (h : Env w0 B0 g l R X E w) (ho : o + 8 ≤ l.length) :
    Calls Ybad.prog 15 #[.agg #[], .slice (some ⟨g, o, none⟩) 8 c] w fun e w' => e = .returned (.int .u64 (numAt l o 8)) ∧ Env w0 B0 g l R X E w' ∧ (∀ (T : Nat) (Y : Obj), w.heap[T]? = some Y → w'.heap[T]? = some Y) := by
  refine (u64_any g o 8 c _ _ _ _ _ _ _ _ w (by omega) (hby.getD o) (hby.getD (o + 1)) (hby.getD (o + 2)) (hby.getD (o + 3)) (hby.getD (o + 4)) (hby.getD (o + 5)) (hby.getD (o + 6)) (hby.getD (o + 7)) (h.reads o (by omega)) (h.reads (o + 1) (by omega)) (h.reads (o + 2) (by omega)) (h.reads (o + 3) (by omega)) (h.reads (o + 4) (by omega)) (h.reads (o + 5) (by omega)) (h.reads (o + 6) (by omega)) (h.reads (o + 7) (by omega))).mono ?_
  rintro e w' ⟨rfl, k, rfl⟩
  refine ⟨ret_int ?_, h.step (((Below.refl _ _).alloc (Nat.le_refl _) _).trans (Joins.below_draws _ _ _)), stays (((Below.refl _ _).alloc (Nat.le_refl _) _).trans (Joins.below_draws _ _ _))⟩
  rw [numAt, take8 l o ho]
  simp only [beN, List.foldl_cons, List.foldl_nil]
  omega
theorem u32_at (o c : Nat) (hby : Byt l) (h : Env w0 B0 g l R X E w) (ho : o + 4 ≤ l.length) :
    Calls Ybad.prog 17 #[.agg #[], .slice (some ⟨g, o, none⟩) 4 c] w fun e w' => e = .returned (.int .u32 (numAt l o 4)) ∧ Env w0 B0 g l R X E w' ∧ (∀ (T : Nat) (Y : Obj), w.heap[T]? = some Y → w'.heap[T]? = some Y) := by
  refine (u32_any g o 4 c _ _ _ _ w (by omega) (hby.getD o) (hby.getD (o + 1)) (hby.getD (o + 2)) (hby.getD (o + 3)) (h.reads o (by omega)) (h.reads (o + 1) (by omega)) (h.reads (o + 2) (by omega)) (h.reads (o + 3) (by omega))).mono ?_
  rintro e w' ⟨rfl, k, rfl⟩
  refine ⟨ret_int ?_, h.step (((Below.refl _ _).alloc (Nat.le_refl _) _).trans (Joins.below_draws _ _ _)), stays (((Below.refl _ _).alloc (Nat.le_refl _) _).trans (Joins.below_draws _ _ _))⟩
  rw [numAt, take4 l o ho]
  simp only [beN, List.foldl_cons, List.foldl_nil]
  omega
theorem u16_at (o c : Nat) (hby : Byt l) (h : Env w0 B0 g l R X E w) (ho : o + 2 ≤ l.length) :
    Calls Ybad.prog 16 #[.agg #[], .slice (some ⟨g, o, none⟩) 2 c] w fun e w' => e = .returned (.int .u16 (numAt l o 2)) ∧ Env w0 B0 g l R X E w' ∧ (∀ (T : Nat) (Y : Obj), w.heap[T]? = some Y → w'.heap[T]? = some Y) := by
  refine (u16_any g o 2 c _ _ w (by omega) (hby.getD o) (hby.getD (o + 1)) (h.reads o (by omega)) (h.reads (o + 1) (by omega))).mono ?_
  rintro e w' ⟨rfl, k, rfl⟩
  refine ⟨ret_int ?_, h.step (((Below.refl _ _).alloc (Nat.le_refl _) _).trans (Joins.below_draws _ _ _)), stays (((Below.refl _ _).alloc (Nat.le_refl _) _).trans (Joins.below_draws _ _ _))⟩
  rw [numAt, take2 l o ho]
  simp only [beN, List.foldl_cons, List.foldl_nil]
  omega
end

/-- THE VERDICT on a datagram. -/
def verdict (l : List Int) : Option (List (Nat × Nat)) :=
  if l.length < 139 ∨ l.getD 0 0 ≠ 16 ∨ numAt l 39 4 ≤ numAt l 35 4 then none else scan l (l.length + 1) 139
def zeroVC : Array Value := #[.int .u64 0, .int .u64 0, .int .u16 0, .int .u64 0, .int .u64 0, .int .u32 0, .int .u32 0, .slice none 0 0]
def headVC (l : List Int) (v : Value) : Array Value := #[.int .u64 (numAt l 1 8), .int .u64 (numAt l 9 8), .int .u16 (numAt l 17 2), .int .u64 (numAt l 19 8), .int .u64 (numAt l 27 8), .int .u32 (numAt l 35 4), .int .u32 (numAt l 39 4), v]

set_option maxHeartbeats 8000000 in
set_option maxRecDepth 100000 in
theorem parse_short (g cap : Nat) (l : List Int) (E : Value) (w : World) (hE : w.cell? ⟨0, 0, none⟩ = some E) (h : l.length < 139) :
    Calls Ybad.prog 8 #[.slice (some ⟨g, 0, none⟩) l.length cap] w fun e w' => e = .returned (.tuple #[.agg zeroVC, E]) ∧ Below w.heap.size w w' := by
  have hd : decide ((l.length : Int) < 139) = true := by simp; omega
  have hE1 : (w.alloc (.cells zeroVC 31)).cell? ⟨0, 0, none⟩ = some E := cell_new _ _ hE
  have hne := World.new_ne w ⟨0, 0, none⟩ hE
  go_enter Ybad.func8, Ybad.ntmps8
  go_wp2_with fail
  go_region_held3 (fun w' => w'.cell? ⟨0, 0, none⟩ = some E) (go_keep) (fail)
  go_wp2_with fail
  refine bodyPost_ret (v := .tuple #[.agg zeroVC, E]) ?_ rfl ⟨rfl, ((Below.refl _ _).alloc (Nat.le_refl _) _).drew⟩
  simp [results, Ybad.results8, go_sem, zeroVC]

set_option maxHeartbeats 8000000 in
set_option maxRecDepth 100000 in
theorem parse_kind (g cap : Nat) (l : List Int) (E : Value) (w : World) (hr : Reads w g l) (hE : w.cell? ⟨0, 0, none⟩ = some E) (h : 139 ≤ l.length) (hk : l.getD 0 0 ≠ 16) :
    Calls Ybad.prog 8 #[.slice (some ⟨g, 0, none⟩) l.length cap] w fun e w' => e = .returned (.tuple #[.agg zeroVC, E]) ∧ Below w.heap.size w w' := by
  have hd : decide ((l.length : Int) < 139) = false := by simp; omega
  have hE1 : (w.alloc (.cells zeroVC 31)).cell? ⟨0, 0, none⟩ = some E := cell_new _ _ hE
  have hne := World.new_ne w ⟨0, 0, none⟩ hE
  have hk2 : (l.getD 0 0 == 16) = false := by rw [beq_eq_false_iff_ne]; exact hk
  have c0 := hr 0 (by omega)
  have hkb : (l.getD 0 0 != 16) = true := by rw [bne, hk2]; rfl
  go_enter Ybad.func8, Ybad.ntmps8
  go_wp2_with fail
  refine (kindOf_any g 0 l.length cap _ _ (by omega) (cell_new _ _ c0)).mono ?_
  rintro e w1 ⟨rfl, rfl⟩
  generalize l.getD 0 0 = x at *
  go_wp2_with fail
  go_region_held3 (fun w' => w'.cell? ⟨0, 0, none⟩ = some E) (go_keep) (fail)
  go_wp2_with fail
  refine bodyPost_ret (v := .tuple #[.agg zeroVC, E]) ?_ rfl ⟨rfl, ((Below.refl _ _).alloc (Nat.le_refl _) _).drew⟩
  simp [results, Ybad.results8, go_sem, zeroVC]

theorem env_start (w : World) (g : Nat) (l : List Int) (E : Value) (o : Obj) (hg : g < w.heap.size) (hr : Reads w g l) (hE : w.cell? ⟨0, 0, none⟩ = some E) : Env w w.heap.size g l w.heap.size o E (w.alloc o) := by
  have hb : Below w.heap.size w (w.alloc o) := (Below.refl _ _).alloc (Nat.le_refl _) o
  exact ⟨fun j hj => (hb.cell (p := ⟨g, j, none⟩) hg).trans (hr j hj), hg, hb, by simp, Nat.le_refl _, heap_alloc_new w o, cell_new _ _ hE⟩

theorem Laid.other {W W' : World} {M cnt i g : Nat} {xs : List (Nat × Nat)} (h : Laid W M cnt i g xs) (he : W'.heap[M]? = W.heap[M]?) : Laid W' M cnt i g xs := by
  obtain ⟨cs, q1, q2, q3⟩ := h
  exact ⟨cs, he.trans q1, q2, q3⟩

theorem results8 (tmps : Array Value) (W : World) (R : Nat) (v0 v1 v2 v3 v4 v5 v6 v7 er : Value) (h2 : tmps.getD 2 undef = .pointer (some ⟨R, 0, none⟩)) (h3 : tmps.getD 3 undef = er) (hrow : W.heap[R]? = some (.cells #[v0, v1, v2, v3, v4, v5, v6, v7] 31 (0, 0))) :
    (results Ybad.f8 tmps).run Ybad.prog W = .ok (.tuple #[.agg #[v0, v1, v2, v3, v4, v5, v6, v7], er]) W := by
  obtain ⟨⟨y0, y1, y2, y3, y4, y5, y6, y7⟩, _⟩ := eight_at hrow
  have h2' : tmps[2]?.getD undef = .pointer (some ⟨R, 0, none⟩) := by simpa using h2
  have h3' : tmps[3]?.getD undef = er := by simpa using h3
  simp [results, Ybad.results8, go_sem, h2', h3', y0, y1, y2, y3, y4, y5, y6, y7]

set_option maxHeartbeats 16000000 in
set_option maxRecDepth 100000 in
theorem parse_head (g cap : Nat) (l : List Int) (hby : Byt l) (E : Value) (w : World) (hg : g < w.heap.size) (hcap : l.length ≤ cap) (hlen : l.length ≤ 10000000) (hr : Reads w g l) (hE : w.cell? ⟨0, 0, none⟩ = some E) (hEi : ∃ te ve, E = .iface te ve) (h : 139 ≤ l.length) (hk : l.getD 0 0 = 16) :
    Calls Ybad.prog 8 #[.slice (some ⟨g, 0, none⟩) l.length cap] w fun e w' => Below w.heap.size w w' ∧ ((verdict l = none ∧ e = .returned (.tuple #[.agg zeroVC, E])) ∨
      (∃ xs M, verdict l = some xs ∧ e = .returned (.tuple #[.agg (headVC l (.slice (some ⟨M, 0, none⟩) xs.length xs.length)), .nilIface]) ∧ w.heap.size ≤ M ∧ Laid w' M xs.length xs.length g xs)) := by
  have hd : decide ((l.length : Int) < 139) = false := by simp; omega
  have hE1 : (w.alloc (.cells zeroVC 31)).cell? ⟨0, 0, none⟩ = some E := cell_new _ _ hE
  have hne := World.new_ne w ⟨0, 0, none⟩ hE
  have c0 := hr 0 (by omega)
  rw [hk] at c0
  have hEnv := env_start w g l E (.cells zeroVC 31) hg hr hE
  have ENV := hide hEnv
  clear hEnv
  have i9 : (9 : Int) ≤ (cap : Int) := by omega
  have i17 : (17 : Int) ≤ (cap : Int) := by omega
  have i19 : (19 : Int) ≤ (cap : Int) := by omega
  have i27 : (27 : Int) ≤ (cap : Int) := by omega
  have i35 : (35 : Int) ≤ (cap : Int) := by omega
  have i39 : (39 : Int) ≤ (cap : Int) := by omega
  have i43 : (43 : Int) ≤ (cap : Int) := by omega
  have k1 : ¬ cap = 1 := by omega
  have k9 : ¬ cap = 9 := by omega
  have k17 : ¬ cap = 17 := by omega
  have k19 : ¬ cap = 19 := by omega
  have k27 : ¬ cap = 27 := by omega
  have k35 : ¬ cap = 35 := by omega
  have k39 : ¬ cap = 39 := by omega
  go_enter Ybad.func8, Ybad.ntmps8
  go_wp2_with fail
  refine (kindOf_any g 0 l.length cap 16 _ (by omega) (cell_new _ _ c0)).mono ?_
  rintro e w1 ⟨rfl, rfl⟩
  obtain ⟨W0, HW0⟩ : ∃ W0, Hid (W0 = w.alloc (.cells #[.int .u64 0, .int .u64 0, .int .u16 0, .int .u64 0, .int .u64 0, .int .u32 0, .int .u32 0, .slice none 0 0] 31)) := ⟨_, rfl⟩
  go_upto_region 3 with fail
  rw [← HW0.out]
  have hEnv : Env w w.heap.size g l w.heap.size (.cells zeroVC 31) E W0 := by rw [HW0.out]; exact ENV.out
  clear ENV HW0 hE1 c0
  have ENV := hide hEnv
  clear hEnv
  go_cut [4] (fun s4 wx => ∃ T, s4 = .pointer (some ⟨T, 0, none⟩) ∧ w.heap.size < T ∧ wx.heap[T]? = some (.cells (headVC l (.slice none 0 0)) 31 (0, 0)) ∧ Env w w.heap.size g l w.heap.size (.cells zeroVC 31) E wx)
  case first =>
    have hT : W0.heap[w.heap.size]? = some (.cells #[.int .u64 0, .int .u64 0, .int .u16 0, .int .u64 0, .int .u64 0, .int .u32 0, .int .u32 0, .slice none 0 0] 31 (0, 0)) := ENV.out.row
    have sz_0 := ENV.out.size
    have t1 : True := trivial
    have t2 : True := trivial
    have t3 : True := trivial
    have t4 : True := trivial
    go_region_held3 (fun _ => True) (go_keep)
     (first
      | (go_at_call 15; have _t := t1; refine (u64_at 1 _ hby (by first | exact ENV.out | exact ENV.out.drew | exact (ENV.out.alloc _) | exact (ENV.out.alloc _).drew | exact (ENV.out.drew.alloc _) | exact (ENV.out.drew.alloc _).drew) (by omega)).mono ?_; rintro e w2 ⟨rfl, hEnv, hP⟩; have sz_w2 := hEnv.size; clear ENV; have ENV := hide hEnv; (first | (have hT := hP _ _ (heap_alloc_new _ _); (try dsimp only [World.drew] at hT)) | (have hT2 := hP _ _ hT; clear hT; have hT := hT2; clear hT2) | skip); clear hEnv hP; clear t1)
      | (go_at_call 15; have _t := t2; refine (u64_at 9 _ hby (by first | exact ENV.out | exact ENV.out.drew | exact (ENV.out.alloc _) | exact (ENV.out.alloc _).drew | exact (ENV.out.drew.alloc _) | exact (ENV.out.drew.alloc _).drew) (by omega)).mono ?_; rintro e w3 ⟨rfl, hEnv, hP⟩; have sz_w3 := hEnv.size; clear ENV; have ENV := hide hEnv; (first | (have hT := hP _ _ (heap_alloc_new _ _); (try dsimp only [World.drew] at hT)) | (have hT2 := hP _ _ hT; clear hT; have hT := hT2; clear hT2) | skip); clear hEnv hP; clear t2)
      | (go_at_call 16; refine (u16_at 17 _ hby (by first | exact ENV.out | exact ENV.out.drew | exact (ENV.out.alloc _) | exact (ENV.out.alloc _).drew | exact (ENV.out.drew.alloc _) | exact (ENV.out.drew.alloc _).drew) (by omega)).mono ?_; rintro e w4 ⟨rfl, hEnv, hP⟩; have sz_w4 := hEnv.size; clear ENV; have ENV := hide hEnv; (first | (have hT := hP _ _ (heap_alloc_new _ _); (try dsimp only [World.drew] at hT)) | (have hT2 := hP _ _ hT; clear hT; have hT := hT2; clear hT2) | skip); clear hEnv hP)
      | (go_at_call 15; have _t := t3; refine (u64_at 19 _ hby (by first | exact ENV.out | exact ENV.out.drew | exact (ENV.out.alloc _) | exact (ENV.out.alloc _).drew | exact (ENV.out.drew.alloc _) | exact (ENV.out.drew.alloc _).drew) (by omega)).mono ?_; rintro e w5 ⟨rfl, hEnv, hP⟩; have sz_w5 := hEnv.size; clear ENV; have ENV := hide hEnv; (first | (have hT := hP _ _ (heap_alloc_new _ _); (try dsimp only [World.drew] at hT)) | (have hT2 := hP _ _ hT; clear hT; have hT := hT2; clear hT2) | skip); clear hEnv hP; clear t3)
      | (go_at_call 15; refine (u64_at 27 _ hby (by first | exact ENV.out | exact ENV.out.drew | exact (ENV.out.alloc _) | exact (ENV.out.alloc _).drew | exact (ENV.out.drew.alloc _) | exact (ENV.out.drew.alloc _).drew) (by omega)).mono ?_; rintro e w6 ⟨rfl, hEnv, hP⟩; have sz_w6 := hEnv.size; clear ENV; have ENV := hide hEnv; (first | (have hT := hP _ _ (heap_alloc_new _ _); (try dsimp only [World.drew] at hT)) | (have hT2 := hP _ _ hT; clear hT; have hT := hT2; clear hT2) | skip); clear hEnv hP)
      | (go_at_call 17; have _t := t4; refine (u32_at 35 _ hby (by first | exact ENV.out | exact ENV.out.drew | exact (ENV.out.alloc _) | exact (ENV.out.alloc _).drew | exact (ENV.out.drew.alloc _) | exact (ENV.out.drew.alloc _).drew) (by omega)).mono ?_; rintro e w7 ⟨rfl, hEnv, hP⟩; have sz_w7 := hEnv.size; clear ENV; have ENV := hide hEnv; (first | (have hT := hP _ _ (heap_alloc_new _ _); (try dsimp only [World.drew] at hT)) | (have hT2 := hP _ _ hT; clear hT; have hT := hT2; clear hT2) | skip); clear hEnv hP; clear t4)
      | (go_at_call 17; refine (u32_at 39 _ hby (by first | exact ENV.out | exact ENV.out.drew | exact (ENV.out.alloc _) | exact (ENV.out.alloc _).drew | exact (ENV.out.drew.alloc _) | exact (ENV.out.drew.alloc _).drew) (by omega)).mono ?_; rintro e w8 ⟨rfl, hEnv, hP⟩; have sz_w8 := hEnv.size; clear ENV; have ENV := hide hEnv; (first | (have hT := hP _ _ (heap_alloc_new _ _); (try dsimp only [World.drew] at hT)) | (have hT2 := hP _ _ hT; clear hT; have hT := hT2; clear hT2) | skip); clear hEnv hP; (try (obtain ⟨⟨z0, z1, z2, z3, z4, z5, z6, z7⟩, zf⟩ := eight_at hT))))
    all_goals
      go_wp2_with fail
      go_meet
      first
        | exact ⟨_, rfl, sz_w8, heap_alloc_new w8 _, ENV.out.alloc _⟩
        | exact ⟨_, rfl, by assumption, eight_set hT _ _ _ _ _ _ _ _, ENV.out.stepT (below_eight _ _ _ _ _ _ _ _ _ _) (by assumption)⟩
  case rest =>
    obtain ⟨T, rfl, hT, hrow, hEnv⟩ := hcut
    have i139 : (139 : Int) ≤ (cap : Int) := by omega
    have i139l : (139 : Int) ≤ (l.length : Int) := by omega
    have ENV := hide hEnv
    have HROW := hide hrow
    have hTs : T < wc.heap.size := (Array.getElem?_eq_some_iff.1 hrow).1
    have hgc : g < wc.heap.size := by have := hEnv.size; omega
    clear hEnv hrow
    go_wp2_with fail
    all_goals
      refine (items_any g 139 _ _ l hby E wc hgc hlen (by omega) (fun hpos => by first | rfl | (exfalso; omega)) (by omega) ENV.out.reads ENV.out.err).mono ?_
      rintro e w9 ⟨hb9, hcase⟩
      have hEnv9 := ENV.out.step hb9
      have hrow9 := (hb9.block T hTs).trans HROW.out
      have hrowR := hEnv9.row
      obtain ⟨⟨z0, z1, z2, z3, z4, z5, z6, z7⟩, zf⟩ := eight_at hrow9
      obtain ⟨⟨x0, x1, x2, x3, x4, x5, x6, x7⟩, xf⟩ := eight_at hrowR
      have hE9 := hEnv9.err
      have ENV9 := hide hEnv9
      have HROW9 := hide hrow9
      have HROWR := hide hrowR
      have hTR : ¬ w.heap.size = T := by omega
      have hTR' : ¬ T = w.heap.size := by omega
      have hT0 : ¬ T = 0 := by omega
      clear hEnv9 hrow9 hrowR hb9
      rcases hcase with ⟨hsc, rfl⟩ | ⟨xs, M, hsc, rfl, hM, hlaid⟩
      · have HVD := hide (show verdict l = none by unfold verdict; split; rfl; exact hsc)
        clear hsc
        by_cases hpp : numAt l 39 4 ≤ numAt l 35 4
        · have hdp : decide (numAt l 39 4 ≤ numAt l 35 4) = true := by simp; exact hpp
          go_wp2_with fail
          go_region_held3 (fun w' => w'.cell? ⟨0, 0, none⟩ = some E) (go_keep) (fail)
          go_wp2_with fail
          have hset := eight_set (W := w9) (T := w.heap.size) HROWR.out (.int .u64 0) (.int .u64 0) (.int .u16 0) (.int .u64 0) (.int .u64 0) (.int .u32 0) (.int .u32 0) (.slice none 0 0)
          have hbe := ENV9.out.below.trans (below_eight w9 w.heap.size (.int .u64 0) (.int .u64 0) (.int .u16 0) (.int .u64 0) (.int .u64 0) (.int .u32 0) (.int .u32 0) (.slice none 0 0))
          refine bodyPost_ret (v := .tuple #[.agg zeroVC, E]) ?_ rfl ⟨hbe.drew, .inl ⟨HVD.out, rfl⟩⟩
          refine results8 _ _ w.heap.size (.int .u64 0) (.int .u64 0) (.int .u16 0) (.int .u64 0) (.int .u64 0) (.int .u32 0) (.int .u32 0) (.slice none 0 0) E ?_ ?_ ?_
          · rfl
          · rfl
          · rw [heap_drew]; exact hset
        · have hdp : decide (numAt l 39 4 ≤ numAt l 35 4) = false := by simp; omega
          obtain ⟨te, ve, rfl⟩ := hEi
          go_wp2_with fail
          go_region_held3 (fun w' => w'.cell? ⟨0, 0, none⟩ = some (.iface te ve)) (go_keep) (fail)
          go_wp2_with fail
          have hset := eight_set (W := w9) (T := w.heap.size) HROWR.out (.int .u64 0) (.int .u64 0) (.int .u16 0) (.int .u64 0) (.int .u64 0) (.int .u32 0) (.int .u32 0) (.slice none 0 0)
          have hbe := ENV9.out.below.trans (below_eight w9 w.heap.size (.int .u64 0) (.int .u64 0) (.int .u16 0) (.int .u64 0) (.int .u64 0) (.int .u32 0) (.int .u32 0) (.slice none 0 0))
          refine bodyPost_ret (v := .tuple #[.agg zeroVC, (.iface te ve)]) ?_ rfl ⟨hbe.drew, .inl ⟨HVD.out, rfl⟩⟩
          refine results8 _ _ w.heap.size (.int .u64 0) (.int .u64 0) (.int .u16 0) (.int .u64 0) (.int .u64 0) (.int .u32 0) (.int .u32 0) (.slice none 0 0) (.iface te ve) ?_ ?_ ?_
          · rfl
          · rfl
          · rw [heap_drew]; exact hset
      · by_cases hpp : numAt l 39 4 ≤ numAt l 35 4
        · have HVD := hide (show verdict l = none by unfold verdict; rw [if_pos (.inr (.inr hpp))])
          have hdp : decide (numAt l 39 4 ≤ numAt l 35 4) = true := by simp; exact hpp
          clear hsc hlaid
          go_wp2_with fail
          go_region_held3 (fun w' => w'.cell? ⟨0, 0, none⟩ = some E) (go_keep) (fail)
          go_wp2_with fail
          have hset := eight_set (W := w9) (T := w.heap.size) HROWR.out (.int .u64 0) (.int .u64 0) (.int .u16 0) (.int .u64 0) (.int .u64 0) (.int .u32 0) (.int .u32 0) (.slice none 0 0)
          have hbe := ENV9.out.below.trans (below_eight w9 w.heap.size (.int .u64 0) (.int .u64 0) (.int .u16 0) (.int .u64 0) (.int .u64 0) (.int .u32 0) (.int .u32 0) (.slice none 0 0))
          refine bodyPost_ret (v := .tuple #[.agg zeroVC, E]) ?_ rfl ⟨hbe.drew, .inl ⟨HVD.out, rfl⟩⟩
          refine results8 _ _ w.heap.size (.int .u64 0) (.int .u64 0) (.int .u16 0) (.int .u64 0) (.int .u64 0) (.int .u32 0) (.int .u32 0) (.slice none 0 0) E ?_ ?_ ?_
          · rfl
          · rfl
          · rw [heap_drew]; exact hset
        · have HVD := hide (show verdict l = some xs by
            unfold verdict
            rw [if_neg (by rintro (h1 | h1 | h1); omega; exact h1 hk; omega)]
            exact hsc)
          have HLAID := hide hlaid
          have hdp : decide (numAt l 39 4 ≤ numAt l 35 4) = false := by simp; omega
          clear hsc hlaid
          go_wp2_with fail
          have hR1 := (Below.heap_setCell w9 ⟨T, 7, none⟩ (.slice (some ⟨M, 0, none⟩) xs.length xs.length) w.heap.size hTR).trans HROWR.out
          have hset := eight_set (W := w9.setCell ⟨T, 7, none⟩ (.slice (some ⟨M, 0, none⟩) xs.length xs.length)) (T := w.heap.size) hR1 (.int .u64 (numAt l 1 8)) (.int .u64 (numAt l 9 8)) (.int .u16 (numAt l 17 2)) (.int .u64 (numAt l 19 8)) (.int .u64 (numAt l 27 8)) (.int .u32 (numAt l 35 4)) (.int .u32 (numAt l 39 4)) (.slice (some ⟨M, 0, none⟩) xs.length xs.length)
          have hbe := (ENV9.out.below.setCell (p := ⟨T, 7, none⟩) (by show w.heap.size ≤ T; omega) (.slice (some ⟨M, 0, none⟩) xs.length xs.length)).trans (below_eight _ w.heap.size (.int .u64 (numAt l 1 8)) (.int .u64 (numAt l 9 8)) (.int .u16 (numAt l 17 2)) (.int .u64 (numAt l 19 8)) (.int .u64 (numAt l 27 8)) (.int .u32 (numAt l 35 4)) (.int .u32 (numAt l 39 4)) (.slice (some ⟨M, 0, none⟩) xs.length xs.length))
          have hlaid2 := HLAID.out.other ((eight_other (W := w9.setCell ⟨T, 7, none⟩ (.slice (some ⟨M, 0, none⟩) xs.length xs.length)) (T := w.heap.size) (k := M) (by omega) (.int .u64 (numAt l 1 8)) (.int .u64 (numAt l 9 8)) (.int .u16 (numAt l 17 2)) (.int .u64 (numAt l 19 8)) (.int .u64 (numAt l 27 8)) (.int .u32 (numAt l 35 4)) (.int .u32 (numAt l 39 4)) (.slice (some ⟨M, 0, none⟩) xs.length xs.length)).trans (Below.heap_setCell _ _ _ _ (by show M ≠ T; omega)))
          refine bodyPost_ret (v := .tuple #[.agg (headVC l (.slice (some ⟨M, 0, none⟩) xs.length xs.length)), .nilIface]) ?_ rfl ⟨hbe, .inr ⟨xs, M, HVD.out, rfl, by omega, hlaid2⟩⟩
          refine results8 _ _ w.heap.size (.int .u64 (numAt l 1 8)) (.int .u64 (numAt l 9 8)) (.int .u16 (numAt l 17 2)) (.int .u64 (numAt l 19 8)) (.int .u64 (numAt l 27 8)) (.int .u32 (numAt l 35 4)) (.int .u32 (numAt l 39 4)) (.slice (some ⟨M, 0, none⟩) xs.length xs.length) .nilIface ?_ ?_ ?_
          · rfl
          · rfl
          · exact hset

/-- ParseViewChange: what it comes to. -/
theorem parse_vc (g cap : Nat) (l : List Int) (hby : Byt l) (E : Value) (w : World) (hg : g < w.heap.size) (hcap : l.length ≤ cap) (hlen : l.length ≤ 10000000) (hr : Reads w g l) (hE : w.cell? ⟨0, 0, none⟩ = some E) (hEi : ∃ te ve, E = .iface te ve) :
    Calls Ybad.prog 8 #[.slice (some ⟨g, 0, none⟩) l.length cap] w fun e w' => Below w.heap.size w w' ∧ ((verdict l = none ∧ e = .returned (.tuple #[.agg zeroVC, E])) ∨
      (∃ xs M, verdict l = some xs ∧ e = .returned (.tuple #[.agg (headVC l (.slice (some ⟨M, 0, none⟩) xs.length xs.length)), .nilIface]) ∧ w.heap.size ≤ M ∧ Laid w' M xs.length xs.length g xs)) := by
  by_cases h : l.length < 139
  · refine (parse_short g cap l E w hE h).mono ?_
    rintro e w' ⟨he, hb⟩
    exact ⟨hb, .inl ⟨by unfold verdict; rw [if_pos (.inl h)], he⟩⟩
  · by_cases hk : l.getD 0 0 = 16
    · exact parse_head g cap l hby E w hg hcap hlen hr hE hEi (by omega) hk
    · refine (parse_kind g cap l E w hr hE (by omega) hk).mono ?_
      rintro e w' ⟨he, hb⟩
      exact ⟨hb, .inl ⟨by unfold verdict; rw [if_pos (.inr (.inl hk))], he⟩⟩
end Go.Proofs.YbulkdjaiDoor.B
