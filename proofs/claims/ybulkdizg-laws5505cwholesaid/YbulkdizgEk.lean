/-
  THE KEY (a struct of 5185 cells): what is kept of it, how it is built, and that it equals itself.
-/
import Derived.Test.YbulkdizgAppend
import Derived.Laws.StructEq
namespace Go.Proofs.Ybulkdizg
open Go.RowKit

/-- A row of n integers, by the kernel. -/
def okZ : List Value → Nat → Bool
  | [], 0 => true
  | .int _ _ :: l, n + 1 => okZ l n
  | _, _ => false
def okRow : Option TypeInfo → Bool
  | some i => match i.zero with
    | some (.agg ⟨.pointer none :: l⟩) => okZ l 5184
    | _ => false
  | none => false
theorem okz47 : okRow (Yba.prog.info? 47) = true := by kernel_rfl
theorem size47 : (Yba.prog.info? 47).map (fun i => i.size) = some 5185 := by kernel_rfl
theorem guard47 : Yba.prog.eqGuardType Yba.prog.depth 47 = false := by kernel_rfl
theorem stood47 : Yba.prog.stoodInHeld 47 = false := by kernel_rfl
theorem places47 : (Yba.prog.fieldsOf 47).toList.mapM (fun f => (Yba.prog.info? f.type).map fun i => (f.offset, i.size)) = some [(0, 1), (1, 1024), (1025, 32), (1057, 4096), (5153, 32)] := by kernel_rfl

theorem okZ_facts : ∀ (l : List Value) (n : Nat), okZ l n = true → l.length = n ∧ ∀ i, i < n → ∃ k a, l[i]? = some (.int k a)
  | [], 0, _ => ⟨rfl, fun i hi => absurd hi (by omega)⟩
  | [], n + 1, h => by simp [okZ] at h
  | v :: l, n, h => by
    cases v <;> cases n <;> simp only [okZ, Bool.false_eq_true] at h
    rename_i k a n
    obtain ⟨h1, h2⟩ := okZ_facts l n h
    refine ⟨by simp [h1], fun i hi => ?_⟩
    cases i with
    | zero => exact ⟨k, a, rfl⟩
    | succ i => exact h2 i (by omega)

/-- The zero value of the key: a nil pointer, 5184 integers. -/
theorem zero47 : ∃ zs : Array Value, (∃ it, Yba.prog.info? 47 = some it ∧ it.zero = some (.agg zs)) ∧ zs.size = 5185 ∧ zs[0]? = some (.pointer none) ∧ ∀ i, 1 ≤ i → i < 5185 → ∃ k a, zs[i]? = some (.int k a) := by
  have h := okz47
  cases hi : Yba.prog.info? 47 with
  | none => rw [hi] at h; cases h
  | some it =>
    rw [hi] at h
    unfold okRow at h
    dsimp only at h
    split at h
    · rename_i l hz
      obtain ⟨h1, h2⟩ := okZ_facts l 5184 h
      refine ⟨_, ⟨it, rfl, hz⟩, by simp [h1], by simp, fun i hi1 hi2 => ?_⟩
      obtain ⟨k, a, e⟩ := h2 (i - 1) (by omega)
      refine ⟨k, a, ?_⟩
      rw [← e]
      obtain ⟨m, rfl⟩ : ∃ m, i = m + 1 := ⟨i - 1, by omega⟩
      simp
    · cases h

/-- THE KEY AS IT LIES: the parameters' pointer; integers; rho among them. -/
structure EkOk (b1 : Nat) (rho : List Int) (cs : Array Value) : Prop where
  size : cs.size = 5185
  head : cs[0]? = some (.pointer (some ⟨b1, 0, none⟩))
  ints : ∀ i, 1 ≤ i → i < 5185 → ∃ k a, cs[i]? = some (.int k a)
  rho : ∀ j, j < 32 → cs[1025 + j]? = some (.int .u8 (rho.getD j 0))

theorem EkOk.set {b1 : Nat} {rho : List Int} {cs : Array Value} (h : EkOk b1 rho cs) (i : Nat) (h1 : 1 ≤ i) (h2 : i < 1025) (k : IntKind) (a : Int) : EkOk b1 rho (cs.setIfInBounds i (.int k a)) := by
  refine ⟨by simpa using h.size, ?_, ?_, ?_⟩
  · rw [Array.getElem?_setIfInBounds, if_neg (by omega)]; exact h.head
  · intro j hj1 hj2
    rw [Array.getElem?_setIfInBounds]
    by_cases e : i = j
    · exact ⟨k, a, by rw [if_pos e, if_pos (by rw [h.size]; omega)]⟩
    · rw [if_neg e]; exact h.ints j hj1 hj2
  · intro j hj
    rw [Array.getElem?_setIfInBounds, if_neg (by omega)]
    exact h.rho j hj

theorem EkOk.one {b1 : Nat} {rho : List Int} {cs : Array Value} (h : EkOk b1 rho cs) : cs.all (·.oneCell') = true := by
  rw [Array.all_eq_true]
  intro i hi
  have hs := h.size
  by_cases e : i = 0
  · have := h.head
    subst e
    rw [Array.getElem?_eq_getElem hi] at this
    injection this with this
    rw [this]; rfl
  · obtain ⟨k, a, this⟩ := h.ints i (by omega) (by omega)
    rw [Array.getElem?_eq_getElem hi] at this
    injection this with this
    rw [this]; rfl

theorem fold_get (off : Nat) : ∀ (l : List Value) (s : Nat) (cs : Array Value), ((l.zipIdx s).foldl (fun cs (x : Value × Nat) => cs.setIfInBounds (off + x.2) x.1) cs).size = cs.size ∧
    ∀ i, i < cs.size → ((l.zipIdx s).foldl (fun cs (x : Value × Nat) => cs.setIfInBounds (off + x.2) x.1) cs)[i]? = if off + s ≤ i ∧ i < off + s + l.length then l[i - (off + s)]? else cs[i]?
  | [], s, cs => ⟨rfl, fun i _ => by rw [if_neg (by simp)]; rfl⟩
  | v :: l, s, cs => by
    obtain ⟨h1, h2⟩ := fold_get off l (s + 1) (cs.setIfInBounds (off + s) v)
    rw [List.zipIdx_cons, List.foldl_cons]
    refine ⟨by rw [h1]; simp, fun i hi => ?_⟩
    rw [h2 i (by simpa using hi)]
    by_cases e : i = off + s
    · subst e
      rw [if_neg (by omega), Array.getElem?_setIfInBounds, if_pos rfl, if_pos hi, if_pos (by simp)]
      simp
    · by_cases e2 : off + s < i ∧ i < off + s + (v :: l).length
      · rw [if_pos (by simp at e2 ⊢; omega), if_pos (by omega)]
        obtain ⟨m, rfl⟩ : ∃ m, i = off + s + 1 + m := ⟨i - (off + s + 1), by omega⟩
        rw [show off + s + 1 + m - (off + s) = m + 1 by omega, show off + s + 1 + m - (off + (s + 1)) = m by omega]
        rfl
      · rw [if_neg (by simp at e2 ⊢; omega), if_neg (by omega), Array.getElem?_setIfInBounds, if_neg (by omega)]

theorem built47 (b1 : Nat) (rho : List Int) (hl : rho.length = 32) : ∃ cs, Yba.prog.built 47 [(0, .pointer (some ⟨b1, 0, none⟩)), (2, .agg (bytesV rho).toArray)] = some cs ∧ EkOk b1 rho cs := by
  obtain ⟨zs, ⟨it, hi, hz⟩, hs, h0, hn⟩ := zero47
  have hp := places47
  simp only [Program.fieldsOf, Yba.underlying47] at hp
  obtain ⟨f1, f2⟩ := fold_get 1025 (bytesV rho) 0 (zs.setIfInBounds 0 (.pointer (some ⟨b1, 0, none⟩)))
  refine ⟨((bytesV rho).zipIdx 0).foldl (fun cs (x : Value × Nat) => cs.setIfInBounds (1025 + x.2) x.1) (zs.setIfInBounds 0 (.pointer (some ⟨b1, 0, none⟩))), ?_, ?_⟩
  · unfold Program.built
    simp only [hi, Yba.underlying47, hz, hp]
    simp [Instr.fill, Value.cells, hs, length_bytesV, hl]
  · refine ⟨by rw [f1]; simpa using hs, ?_, ?_, ?_⟩
    · rw [f2 0 (by simp [hs]), if_neg (by omega), Array.getElem?_setIfInBounds, if_pos rfl, if_pos (by omega)]
    · intro i h1 h2
      rw [f2 i (by simp [hs]; omega)]
      by_cases e : 1025 + 0 ≤ i ∧ i < 1025 + 0 + (bytesV rho).length
      · rw [if_pos e]
        rw [length_bytesV] at e
        refine ⟨.u8, rho.getD (i - (1025 + 0)) 0, ?_⟩
        simp [bytesV, List.getElem?_eq_getElem (show i - 1025 < rho.length by omega)]
      · rw [if_neg e, Array.getElem?_setIfInBounds, if_neg (by omega)]
        exact hn i h1 h2
    · intro j hj
      rw [f2 (1025 + j) (by simp [hs]; omega), if_pos (by rw [length_bytesV]; omega)]
      simp [bytesV, List.getElem?_eq_getElem (show j < rho.length by omega)]

/-- v == v, whatever the world. -/
def Same (d : Nat) (t : TypeId) (v : Value) : Prop := ∀ w, (Op.equalIn d t v v).run Yba.prog w = .ok true w

theorem forIn_all {β : Type} (w : World) (b0 : β) (body : Nat → β → Sem (ForInStep β)) : ∀ (l : List Nat), (∀ i ∈ l, (body i b0).run Yba.prog w = .ok (.yield b0) w) → (forIn l b0 body).run Yba.prog w = .ok b0 w
  | [], _ => by simp
  | i :: l, h => by
    rw [List.forIn_cons, Sem.run_bind, h i (by simp), Result.andThen_ok]
    exact forIn_all w b0 body l (fun j hj => h j (by simp [hj]))

theorem same_array (d : Nat) (t e : TypeId) (len n : Nat) (xs : Array Value) (ht : Yba.prog.underlying t = some (.array len e)) (hn : ∀ w, (sizeOf e).run Yba.prog w = .ok n w)
    (h : ∀ i, i < len → ∃ v, (∀ w, (part e xs (i * n)).run Yba.prog w = .ok v w) ∧ Same d e v) : Same (d + 1) t (.agg xs) := by
  intro w
  rw [Op.equalIn]
  simp only [Sem.run_bind, run_underlying ht, Result.andThen_ok, hn]
  rw [Std.Legacy.Range.forIn_eq_forIn_range']
  rw [forIn_all]
  · simp
  · intro i hi
    obtain ⟨v, h1, h2⟩ := h i (by simp [Std.Legacy.Range.size] at hi; omega)
    simp only [Sem.run_bind, h1, Result.andThen_ok, h2 w]
    simp

theorem part_agg (t : TypeId) (n : Nat) (cs : Array Value) (off : Nat) (ha : ∀ w, (isAgg t).run Yba.prog w = .ok true w) (hn : ∀ w, (sizeOf t).run Yba.prog w = .ok n w) (w : World) : (part t cs off).run Yba.prog w = .ok (.agg (cs.extract off (off + n))) w := by
  simp [part, ha, hn]
theorem part_one (t : TypeId) (cs : Array Value) (off : Nat) (v : Value) (ha : ∀ w, (isAgg t).run Yba.prog w = .ok false w) (hv : cs[off]? = some v) (w : World) : (part t cs off).run Yba.prog w = .ok v w := by
  simp [part, ha, hv]
theorem same_int (d : Nat) (t : TypeId) (k k' : IntKind) (a : Int) (h : Yba.prog.underlying t = some (.int k')) : Same (d + 1) t (.int k a) := fun w => by
  rw [run_equalIn_int w d t k k' a a h]; simp
theorem same_ptr (d b : Nat) : Same (d + 1) 26 (.pointer (some ⟨b, 0, none⟩)) := fun w => by
  rw [Op.equalIn]
  simp [run_underlying Yba.underlying26, Yba.sizeOf39, sameAddr]

/-- A row of n integers is what it is. -/
theorem same_row (d : Nat) (t e : TypeId) (k' : IntKind) (n : Nat) (xs : Array Value) (ht : Yba.prog.underlying t = some (.array n e)) (he : Yba.prog.underlying e = some (.int k')) (hn : ∀ w, (sizeOf e).run Yba.prog w = .ok 1 w) (ha : ∀ w, (isAgg e).run Yba.prog w = .ok false w)
    (h : ∀ i, i < n → ∃ k a, xs[i]? = some (.int k a)) : Same (d + 2) t (.agg xs) :=
  same_array (d + 1) t e n 1 xs ht hn (fun i hi => by
    obtain ⟨k, a, hv⟩ := h i hi
    exact ⟨_, fun w => part_one e xs _ _ ha (by simpa using hv) w, same_int d e k k' a he⟩)

theorem same_rows (d : Nat) (t : TypeId) (n : Nat) (xs : Array Value) (ht : Yba.prog.underlying t = some (.array n 43)) (h : ∀ i, i < n * 256 → ∃ k a, xs[i]? = some (.int k a)) : Same (d + 3) t (.agg xs) :=
  same_array (d + 2) t 43 n 256 xs ht Yba.sizeOf43 (fun i hi => ⟨_, fun w => part_agg 43 256 xs _ Yba.isAgg43 Yba.sizeOf43 w, same_row d 43 41 .i16 256 _ Yba.underlying43 Yba.underlying41 Yba.sizeOf41 Yba.isAgg41 (fun j hj => by
    obtain ⟨k, a, hv⟩ := h (i * 256 + j) (by omega)
    exact ⟨k, a, by rw [Array.getElem?_extract, if_pos (by have := (Array.getElem?_eq_some_iff.1 hv).1; omega)]; exact hv⟩)⟩)

theorem eqFields_cons {d : Nat} {xs : Array Value} {f : Field} {fs : List Field} {v : Value} {w : World} (hn : f.name ≠ "_") (hp : ∀ w, (part f.type xs f.offset).run Yba.prog w = .ok v w) (hs : Same d f.type v) (h : (Op.eqFields d xs xs fs).run Yba.prog w = .ok true w) :
    (Op.eqFields d xs xs (f :: fs)).run Yba.prog w = .ok true w := by
  rw [Op.eqFields, if_pos hn]
  simp only [Sem.run_bind, hp, Result.andThen_ok, hs w]
  simpa using h
theorem same47 {b1 : Nat} {rho : List Int} {cs : Array Value} (h : EkOk b1 rho cs) (d : Nat) (w : World) : (Op.equalIn (d + 3 + 1) 47 (.agg cs) (.agg cs)).run Yba.prog w = .ok true w := by
  have hs := h.size
  have cut : ∀ off n, 1 ≤ off → off + n ≤ 5185 → ∀ i, i < n → ∃ k a, (cs.extract off (off + n))[i]? = some (.int k a) := fun off n h1 h2 i hi => by
    obtain ⟨k, a, hv⟩ := h.ints (off + i) (by omega) (by omega)
    exact ⟨k, a, by rw [Array.getElem?_extract, if_pos (by omega)]; exact hv⟩
  rw [run_equalIn_agg w (d + 3) 47 cs cs (by simp [Program.fieldsOf, Yba.underlying47]) stood47]
  simp only [Program.fieldsOf, Yba.underlying47]
  have e1 := same_ptr (d + 2) b1
  have e2 := same_rows d 44 4 _ Yba.underlying44 (fun i hi => cut 1 1024 (by omega) (by omega) i (by omega))
  have e3 := same_row (d + 1) 34 5 .u8 32 _ Yba.underlying34 Yba.underlying5 Yba.sizeOf5 Yba.isAgg5 (cut 1025 32 (by omega) (by omega))
  have e4 := same_rows d 45 16 _ Yba.underlying45 (fun i hi => cut 1057 4096 (by omega) (by omega) i (by omega))
  have e5 := same_row (d + 1) 34 5 .u8 32 _ Yba.underlying34 Yba.underlying5 Yba.sizeOf5 Yba.isAgg5 (cut 5153 32 (by omega) (by omega))
  refine eqFields_cons (by decide) (part_one 26 cs 0 _ Yba.isAgg26 h.head) e1 ?_
  refine eqFields_cons (by decide) (part_agg 44 1024 cs 1 Yba.isAgg44 Yba.sizeOf44) e2 ?_
  refine eqFields_cons (by decide) (part_agg 34 32 cs 1025 Yba.isAgg34 Yba.sizeOf34) e3 ?_
  refine eqFields_cons (by decide) (part_agg 45 4096 cs 1057 Yba.isAgg45 Yba.sizeOf45) e4 ?_
  refine eqFields_cons (by decide) (part_agg 34 32 cs 5153 Yba.isAgg34 Yba.sizeOf34) e5 ?_
  rw [Op.eqFields]
  rfl
theorem eq47 {b1 : Nat} {rho : List Int} {cs : Array Value} (h : EkOk b1 rho cs) (w : World) : (Op.equalIn 10000 47 (.agg cs) (.agg cs)).run Yba.prog w = .ok true w := same47 h 9996 w
end Go.Proofs.Ybulkdizg
