/-
  AIDS FOR BYTE SLICES THAT THE CALL ITSELF MAKES, over any program: 'Grew': what one append (or a chain of them) on an owned slice leaves; a law for the append of a literal; the big-endian bytes of a number.
-/
import Derived.WalkKit
import Derived.Deep.AppendLies
namespace Go.Proofs.YbulkdjaiDoor.B
open Go.RowKit

/-- The old blocks but v's own are as they were; v' lies where v lay (and is no shorter), or in a new block; v's own elements are as they were. -/
structure Grew (w w' : World) (v v' : Value) : Prop where
  by' : w.grownBy w' v.ownBlock
  at' : v'.ownBlock = v.ownBlock ∨ ∃ g, v'.ownBlock = some g ∧ w.heap.size ≤ g
  kept : ∀ g n cap, v = .slice (some ⟨g, 0, none⟩) n cap → g < w.heap.size → ∀ j, j < n → w'.cell? ⟨g, j, none⟩ = w.cell? ⟨g, j, none⟩
  mono : ∀ g n cap, v = .slice (some ⟨g, 0, none⟩) n cap → ∃ g' n' cap', v' = .slice (some ⟨g', 0, none⟩) n' cap' ∧ n ≤ n'

theorem Grew.refl (w : World) (v : Value) : Grew w w v v := ⟨World.grownBy.refl w _, .inl rfl, fun _ _ _ _ _ _ _ => rfl, fun g n cap h => ⟨g, n, cap, h, Nat.le_refl _⟩⟩

theorem Grew.trans {a b c : World} {u v x : Value} (h : Grew a b u v) (k : Grew b c v x) : Grew a c u x := by
  have hs := h.by'.size
  refine ⟨⟨k.by'.os.trans h.by'.os, k.by'.tape.trans h.by'.tape, k.by'.output.trans h.by'.output, Nat.le_trans hs k.by'.size, ?_⟩, ?_, ?_, ?_⟩
  · intro i hi hne
    refine (k.by'.block i (by omega) ?_).trans (h.by'.block i hi hne)
    rcases h.at' with e | ⟨g, e, hg⟩
    · rw [e]; exact hne
    · rw [e]; intro he; injection he with he; omega
  · rcases k.at' with e | ⟨g, e, hg⟩
    · rw [e]; exact h.at'
    · exact .inr ⟨g, e, by omega⟩
  · intro g n cap hu hg j hj
    obtain ⟨g1, n1, cap1, rfl, hn1⟩ := h.mono g n cap hu
    refine Eq.trans ?_ (h.kept g n cap hu hg j hj)
    by_cases e : g1 = g
    · subst e
      exact k.kept g1 n1 cap1 rfl (by omega) j (by omega)
    · exact World.cell?_of_block (k.by'.block g (by omega) (by simp [Value.ownBlock]; omega))
  · intro g n cap hu
    obtain ⟨g1, n1, cap1, rfl, hn1⟩ := h.mono g n cap hu
    obtain ⟨g2, n2, cap2, rfl, hn2⟩ := k.mono g1 n1 cap1 rfl
    exact ⟨g2, n2, cap2, rfl, by omega⟩

/-- A new block ahead of the growth. -/
theorem Grew.ofAlloc {a c : World} {u v : Value} {o : Obj} (h : Grew (a.alloc o) c u v) : Grew a c u v := by
  have hz : (a.alloc o).heap.size = a.heap.size + 1 := by simp
  have hs := h.by'.size
  refine ⟨⟨h.by'.os, h.by'.tape, h.by'.output, by omega, ?_⟩, ?_, ?_, h.mono⟩
  · intro i hi hne
    exact (h.by'.block i (by omega) hne).trans (Below.heap_alloc a o i hi)
  · rcases h.at' with e | ⟨g, e, hg⟩
    · exact .inl e
    · exact .inr ⟨g, e, by omega⟩
  · intro g n cap hu hg j hj
    exact (h.kept g n cap hu (by omega) j hj).trans (World.cell?_of_block (Below.heap_alloc a o g hg))

/-- Draws ahead of it, draws behind it. -/
theorem Grew.ofDrew {a c : World} {u v : Value} (h : Grew a.drew c u v) : Grew a c u v := ⟨⟨h.by'.os, h.by'.tape, h.by'.output, h.by'.size, h.by'.block⟩, h.at', h.kept, h.mono⟩
theorem Grew.drew {a c : World} {u v : Value} (h : Grew a c u v) : Grew a c.drew u v := ⟨⟨h.by'.os, h.by'.tape, h.by'.output, h.by'.size, h.by'.block⟩, h.at', h.kept, h.mono⟩
theorem Grew.ofBelow {w w' : World} (h : Below w.heap.size w w') (v : Value) : Grew w w' v v :=
  ⟨⟨h.os, h.tape, h.output, h.size, fun k hk _ => h.block k hk⟩, .inl rfl, fun _ _ _ _ hg _ _ => h.cell hg, fun g n cap h => ⟨g, n, cap, h, Nat.le_refl _⟩⟩
/-- From nil: there was nothing. -/
theorem Grew.ofNil {w w' : World} {v' : Value} (h : w.grownBy w' none) (hat : v'.ownBlock = none ∨ ∃ g, v'.ownBlock = some g ∧ w.heap.size ≤ g) : Grew w w' (.slice none 0 0) v' :=
  ⟨h, hat, (fun _ _ _ h => by cases h), (fun _ _ _ h => by cases h)⟩

/-- ONE APPEND of at least one byte, from whatever row, onto a slice that is owned and not nil. -/
theorem grew_of_append {P : Program} (w : World) (B : Nat) (t ty e : TypeId) (ht : P.underlying t = some (.slice e)) (hinfo : (P.info? e).map (fun i => (i.zero, i.size, i.bytes)) = some (some (.int .u8 0), 1, 1))
    (g0 n cap0 : Nat) (xs : List Value) (hown : w.ownsRow B e 1 (.slice (some ⟨g0, 0, none⟩) n cap0) n xs) (ad : Addr) (m c : Nat) (news : List Value) (hl : news.length = m) (hnews : ∀ j u, news[j]? = some u → w.cell? (ad.add j) = some u) (h1 : ∀ u ∈ news, u.oneCell' = true)
    (hm : 0 < m) (hb : n + m ≤ 140737488355328) (hB : B ≤ w.heap.size) :
    ∃ g cap w', (Builtin.append_ #[t, t] ty #[.slice (some ⟨g0, 0, none⟩) n cap0, .slice (some ad) m c]).run P w = .ok (.slice (some ⟨g, 0, none⟩) (n + m) cap) w' ∧ w'.ownsRow B e 1 (.slice (some ⟨g, 0, none⟩) (n + m) cap) (n + m) (xs ++ news) ∧
      Grew w w' (.slice (some ⟨g0, 0, none⟩) n cap0) (.slice (some ⟨g, 0, none⟩) (n + m) cap) := by
  obtain ⟨i, hi, hz0, hz1, hz2⟩ := info_parts hinfo
  obtain ⟨g, cap, w', hr, h2, h3, h4, _⟩ := run_append_lies (P := P) w t ty B e i (.int .u8 0) 1 1 ht hi hz0 hz1 hz2 rfl (by decide) _ n xs hown ad m c news (by simpa using hl) hnews h1 hm (by unfold maxLen; omega) (by omega) hB w.heap.size rfl
  refine ⟨g, cap, w', hr, h2, h3, ?_, ?_, ?_⟩
  · rcases h4 with h4 | h4
    · exact .inl h4.symm
    · exact .inr ⟨g, rfl, by omega⟩
  · intro g1 n1 cap1 hv hg j hj
    injection hv with e1 e2 e3
    injection e1 with e1
    injection e1 with e1
    subst e1 e2 e3
    rcases hown.2 with ⟨hv, _⟩ | ⟨g', cap', cur, hv, hbg, hgg, hnc, hcm, hcs, htake⟩
    · cases hv
    · injection hv with e1 _ e3
      injection e1 with e1
      injection e1 with e1
      subst e1 e3
      by_cases hroom : n + m ≤ cap0
      · have hcs' : cur.size = cap0 := by simpa using hcs
        have hr2 := run_append_room (P := P) w t ty e i ht hi g0 n cap0 cur hgg ad m c news (by rw [hz1]; simpa using hl) hnews h1 hroom (by rw [hz1, hl]; omega)
        have e4 := hr.symm.trans hr2
        injection e4 with _ e5
        rw [e5, cell_setRow_same w g0 j cur _ e (0, 0) hgg, cell_of_row w g0 j cur e (0, 0) hgg, hz1]
        simp only [Nat.mul_one, List.getElem?_toArray]
        rw [List.append_assoc, List.getElem?_append_left (by simp; omega), List.getElem?_take, if_pos hj]
        simp
      · have holds : ∀ j u, xs[j]? = some u → w.cell? ((⟨g0, 0, none⟩ : Addr).add j) = some u := hown.cells (g := g0) rfl
        have hr2 := run_append_grow (P := P) w t ty e i (.int .u8 0) ht hi hz0 ⟨g0, 0, none⟩ n cap0 xs (by rw [hz1]; simpa using hown.1) holds ad m c news (by rw [hz1]; simpa using hl) hnews (by omega) (by omega) (by rw [hz2]; exact growslice_fits (by omega) (by omega))
        have e4 := hr.symm.trans hr2
        injection e4 with _ e5
        rw [e5]
        exact World.cell?_of_block (Below.heap_alloc w.drew _ g0 hg)
  · intro g1 n1 cap1 hv
    injection hv with e1 e2 e3
    exact ⟨g, n + m, cap, rfl, by omega⟩

/-- At the operation. -/
theorem wpList_app_row {P : Program} (w : World) {ops : Array Oper} {rest : List Oper} {o : Oper} {a : Act} {Q : Exit → Act → World → Prop} (hgd : o.guard = none) (s x : Operand) (t : TypeId)
    (ho : o.op = .call { callee := .builtin .append, args := #[s, x], argTypes := #[t, t] })
    (B : Nat) (e : TypeId) (ht : P.underlying t = some (.slice e)) (hinfo : (P.info? e).map (fun i => (i.zero, i.size, i.bytes)) = some (some (.int .u8 0), 1, 1))
    (g0 n cap0 : Nat) (xs : List Value) (hs : a.eval s = .slice (some ⟨g0, 0, none⟩) n cap0) (hown : w.ownsRow B e 1 (.slice (some ⟨g0, 0, none⟩) n cap0) n xs) (ad : Addr) (m c : Nat) (news : List Value) (hx : a.eval x = .slice (some ad) m c) (hl : news.length = m) (hnews : ∀ j u, news[j]? = some u → w.cell? (ad.add j) = some u) (h1 : ∀ u ∈ news, u.oneCell' = true)
    (hm : 0 < m) (hb : n + m ≤ 140737488355328) (hB : B ≤ w.heap.size)
    (h : ∀ g cap w', w'.ownsRow B e 1 (.slice (some ⟨g, 0, none⟩) (n + m) cap) (n + m) (xs ++ news) → Grew w w' (.slice (some ⟨g0, 0, none⟩) n cap0) (.slice (some ⟨g, 0, none⟩) (n + m) cap) → wpList P ops Q rest (a.put o.dst (.slice (some ⟨g, 0, none⟩) (n + m) cap)) w') :
    wpList P ops Q (o :: rest) a w := by
  refine wpList_plain hgd fun K hK => ?_
  obtain ⟨g, cap, w', hr, h2, h3⟩ := grew_of_append (P := P) w B t o.type e ht hinfo g0 n cap0 xs hown ad m c news hl hnews h1 hm hb hB
  unfold Oper.wp execOp
  simp only [ho, resolve, invoke, builtin, Sem.run_bind, Sem.run_pure, Result.andThen_ok, List.map_toArray, List.map_cons, List.map_nil, hs, hx, hr]
  exact hK _ _ (h g cap w' h2 h3)

/-- What lies in another block stays. -/
theorem Grew.block {a c : World} {u v : Value} (h : Grew a c u v) {k : Nat} (hk : k < a.heap.size) (hne : u.ownBlock ≠ some k) : c.heap[k]? = a.heap[k]? := h.by'.block k hk (fun e => hne e.symm)
theorem Grew.cell {a c : World} {u v : Value} (h : Grew a c u v) {p : Addr} (hk : p.block < a.heap.size) (hne : u.ownBlock ≠ some p.block) : c.cell? p = a.cell? p := World.cell?_of_block (h.block hk hne)
theorem Grew.size {a c : World} {u v : Value} (h : Grew a c u v) : a.heap.size ≤ c.heap.size := h.by'.size

/-- The slice that has come out does not lie in an old block that the one that went in did not lie in. -/
theorem Grew.apart {a c : World} {u : Value} {g n cap q : Nat} (h : Grew a c u (.slice (some ⟨g, 0, none⟩) n cap)) (hq : q < a.heap.size) (hne : u.ownBlock ≠ some q) : g ≠ q := by
  intro e
  subst e
  rcases h.at' with e | ⟨k, e, hk⟩
  · exact hne e.symm
  · have : g = k := by simpa [Value.ownBlock] using e
    omega

/-- Where the owned slice lies from B on, all below B is as it was. -/
theorem Grew.below {B : Nat} {a c : World} {u v : Value} {e : TypeId} {s n : Nat} {xs : List Value} (h : Grew a c u v) (hB : B ≤ a.heap.size) (hown : a.ownsRow B e s u n xs) : Below B a c :=
  (Below.refl B a).grown h.by' hB (fun k hk => (hown.lt k hk).1)

/-- THE APPEND OF A LITERAL of bytes ('append(s, b0, b1, ..)': the literal lies in a new block), m of them, onto a slice that is not nil. -/
theorem wpList_app {P : Program} (W : World) {ops : Array Oper} {rest : List Oper} {o : Oper} {a : Act} {Q : Exit → Act → World → Prop} (hgd : o.guard = none) (s x : Operand) (t : TypeId)
    (ho : o.op = .call { callee := .builtin .append, args := #[s, x], argTypes := #[t, t] })
    (e : TypeId) (ht : P.underlying t = some (.slice e)) (hinfo : (P.info? e).map (fun i => (i.zero, i.size, i.bytes)) = some (some (.int .u8 0), 1, 1))
    (B : Nat) (g0 cap0 : Nat) (n : Nat) (xs : List Value) (hs : a.eval s = .slice (some ⟨g0, 0, none⟩) n cap0) (hown : W.ownsRow B e 1 (.slice (some ⟨g0, 0, none⟩) n cap0) n xs)
    (N : Nat) (hN : W.heap.size = N) (m : Nat) (cs : Array Value) (hx : a.eval x = .slice (some ⟨N, 0, none⟩) m m) (hm : cs.size = m) (h1 : ∀ u ∈ cs.toList, u.oneCell' = true) (h0 : 0 < m)
    (hb : n + m ≤ 140737488355328) (hB : B ≤ W.heap.size)
    (h : ∀ g cap w', w'.ownsRow B e 1 (.slice (some ⟨g, 0, none⟩) (n + m) cap) (n + m) (xs ++ cs.toList) → Grew W w' (.slice (some ⟨g0, 0, none⟩) n cap0) (.slice (some ⟨g, 0, none⟩) (n + m) cap) → wpList P ops Q rest (a.put o.dst (.slice (some ⟨g, 0, none⟩) (n + m) cap)) w') :
    wpList P ops Q (o :: rest) a (W.alloc (.cells cs e)) := by
  subst hm
  subst hN
  exact wpList_app_row (P := P) (W.alloc (.cells cs e)) hgd s x t ho B e ht hinfo g0 n cap0 xs hs (hown.alloc _) ⟨W.heap.size, 0, none⟩ cs.size cs.size cs.toList hx (by simp)
    (World.news_of_block (heap_alloc_new W _)) h1 h0 hb (by simp; omega) (fun g cap w' h2 h3 => h g cap w' h2 h3.ofAlloc)

/-- What another owned slice holds stays. -/
theorem Grew.owns {a c : World} {u v x : Value} {B : Nat} {e : TypeId} {s n : Nat} {xs : List Value} (h : Grew a c u v) (ho : a.ownsRow B e s x n xs) (hne : x.ownBlock ≠ u.ownBlock) : c.ownsRow B e s x n xs :=
  ho.kept h.by' (.inr hne)

/-- WHAT THE WALK IS TOLD OF A SLICE OF INTEGERS THAT CAME IN (the guide's words): it is nil; or it leads to a row of 'cap' cells, the numbers 'zs' (the first 'len' are its elements, the rest its spare room), each fitting its kind. -/
def IsRow (k : IntKind) (w : World) (a : Option Addr) (len cap : Nat) (zs : List Int) : Prop :=
  (a = none ∧ len = 0 ∧ cap = 0 ∧ zs = []) ∨
  ∃ x, a = some x ∧ len ≤ cap ∧ cap ≤ maxLen ∧ zs.length = cap ∧ (∀ i, i < zs.length → w.cell? (x.add i) = some (.int k (zs.getD i 0))) ∧ ∀ n ∈ zs, (Lit.int k n).wf = true

/-- The byte number i (from the least) of x. -/
def byteOf (x : Int) (i : Nat) : Int := x / 256 ^ i % 256
/-- The k low bytes of x, the most significant first. -/
def be (x : Int) : Nat → List Int
  | 0 => []
  | k + 1 => byteOf x k :: be x k
/-- As cells. -/
def bytesV (l : List Int) : List Value := l.map (Value.int .u8)

theorem bytesV_append (a b : List Int) : bytesV (a ++ b) = bytesV a ++ bytesV b := by simp [bytesV]
theorem length_bytesV (a : List Int) : (bytesV a).length = a.length := by simp [bytesV]
theorem length_be (x : Int) (k : Nat) : (be x k).length = k := by
  induction k with
  | zero => rfl
  | succ k ih => simp [be, ih]

theorem be_get (x : Int) : ∀ (cnt j : Nat), j < cnt → (be x cnt)[j]? = some (byteOf x (cnt - 1 - j))
  | 0, _, h => absurd h (by omega)
  | cnt + 1, 0, _ => by simp [be]
  | cnt + 1, j + 1, h => by
    simp only [be, List.getElem?_cons_succ]
    rw [be_get x cnt j (by omega)]
    congr 2; omega

theorem be_step (x : Int) (cnt k : Nat) (hk : k ≤ cnt) (h0 : 0 < k) : (be x cnt).take (cnt - (k - 1)) = (be x cnt).take (cnt - k) ++ [byteOf x (k - 1)] := by
  rw [show cnt - (k - 1) = cnt - k + 1 by omega, List.take_add_one, be_get x cnt (cnt - k) (by omega), show cnt - 1 - (cnt - k) = k - 1 by omega]
  rfl

/-- What one round of the loop that appends the bytes leaves. -/
theorem be_round {w : World} {B e n cnt k : Nat} {u : Value} {xs : List Value} {x : Int} (hk : k ≤ cnt) (h0 : 0 < k)
    (h : w.ownsRow B e 1 u (n + (cnt - k) + 1) ((xs ++ bytesV ((be x cnt).take (cnt - k))) ++ [.int .u8 (x / 2 ^ ((k - 1) * 8) % 256)])) :
    w.ownsRow B e 1 u (n + (cnt - (k - 1))) (xs ++ bytesV ((be x cnt).take (cnt - (k - 1)))) := by
  have e1 : n + (cnt - k) + 1 = n + (cnt - (k - 1)) := by omega
  have e2 : x / 2 ^ ((k - 1) * 8) % 256 = byteOf x (k - 1) := by
    unfold byteOf
    rw [Nat.mul_comm, Int.pow_mul]; rfl
  rw [be_step x cnt k hk h0, ← e1, ← e2, bytesV_append, ← List.append_assoc]
  exact h

end Go.Proofs.YbulkdjaiDoor.B
