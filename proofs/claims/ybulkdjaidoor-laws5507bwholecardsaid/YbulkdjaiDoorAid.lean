/-
  AIDS FOR BYTE SLICES THAT THE CALL ITSELF MAKES, over any program: 'Grew': what one append (or a chain of them) on an owned slice leaves; a law for the append of a literal; the big-endian bytes of a number.
-/
import Derived.WalkKit
import Derived.Deep.AppendLies
namespace Go.Proofs.YbulkdjaiDoor
open Go.RowKit

/-- The old blocks but v's own are as they were; v' lies where v lay, or in a new block. -/
structure Grew (w w' : World) (v v' : Value) : Prop where
  by' : w.grownBy w' v.ownBlock
  at' : v'.ownBlock = v.ownBlock ∨ ∃ g, v'.ownBlock = some g ∧ w.heap.size ≤ g

theorem Grew.refl (w : World) (v : Value) : Grew w w v v := ⟨World.grownBy.refl w _, .inl rfl⟩

theorem Grew.trans {a b c : World} {u v x : Value} (h : Grew a b u v) (k : Grew b c v x) : Grew a c u x := by
  have hs := h.by'.size
  refine ⟨⟨k.by'.os.trans h.by'.os, k.by'.tape.trans h.by'.tape, k.by'.output.trans h.by'.output, Nat.le_trans hs k.by'.size, ?_⟩, ?_⟩
  · intro i hi hne
    refine (k.by'.block i (by omega) ?_).trans (h.by'.block i hi hne)
    rcases h.at' with e | ⟨g, e, hg⟩
    · rw [e]; exact hne
    · rw [e]; intro he; injection he with he; omega
  · rcases k.at' with e | ⟨g, e, hg⟩
    · rw [e]; exact h.at'
    · exact .inr ⟨g, e, by omega⟩

/-- A new block ahead of the growth. -/
theorem Grew.ofAlloc {a c : World} {u v : Value} {o : Obj} (h : Grew (a.alloc o) c u v) : Grew a c u v := by
  have hz : (a.alloc o).heap.size = a.heap.size + 1 := by simp
  have hs := h.by'.size
  refine ⟨⟨h.by'.os, h.by'.tape, h.by'.output, by omega, ?_⟩, ?_⟩
  · intro i hi hne
    exact (h.by'.block i (by omega) hne).trans (Below.heap_alloc a o i hi)
  · rcases h.at' with e | ⟨g, e, hg⟩
    · exact .inl e
    · exact .inr ⟨g, e, by omega⟩

/-- Draws ahead of it, draws behind it. -/
theorem Grew.ofDrew {a c : World} {u v : Value} (h : Grew a.drew c u v) : Grew a c u v := ⟨⟨h.by'.os, h.by'.tape, h.by'.output, h.by'.size, h.by'.block⟩, h.at'⟩
theorem Grew.drew {a c : World} {u v : Value} (h : Grew a c u v) : Grew a c.drew u v := ⟨⟨h.by'.os, h.by'.tape, h.by'.output, h.by'.size, h.by'.block⟩, h.at'⟩

/-- What lies in another block stays. -/
theorem Grew.block {a c : World} {u v : Value} (h : Grew a c u v) {k : Nat} (hk : k < a.heap.size) (hne : u.ownBlock ≠ some k) : c.heap[k]? = a.heap[k]? := h.by'.block k hk (fun e => hne e.symm)
theorem Grew.cell {a c : World} {u v : Value} (h : Grew a c u v) {p : Addr} (hk : p.block < a.heap.size) (hne : u.ownBlock ≠ some p.block) : c.cell? p = a.cell? p := World.cell?_of_block (h.block hk hne)
theorem Grew.size {a c : World} {u v : Value} (h : Grew a c u v) : a.heap.size ≤ c.heap.size := h.by'.size

/-- The slice that has come out does not lie in an old block that the one that went in did not lie in. -/
theorem Grew.apart {a c : World} {u : Value} {g n cap q : Nat} (h : Grew a c u (.slice (some ⟨g, 0, none⟩) n cap)) (hq : q < a.heap.size) (hne : u.ownBlock ≠ some q) : g ≠ q := by
  intro e
  subst e
  rcases h.at' with e | ⟨k, e, hk⟩
  · exact hne e.symm
  · have : g = k := by simpa [Value.ownBlock] using e
    omega

/-- Where the owned slice lies from B on, all below B is as it was. -/
theorem Grew.below {B : Nat} {a c : World} {u v : Value} {e : TypeId} {s n : Nat} {xs : List Value} (h : Grew a c u v) (hB : B ≤ a.heap.size) (hown : a.ownsRow B e s u n xs) : Below B a c :=
  (Below.refl B a).grown h.by' hB (fun k hk => (hown.lt k hk).1)

/-- THE APPEND OF A LITERAL of bytes ('append(s, b0, b1, ..)': the literal lies in a new block), m of them. -/
theorem wpList_app {P : Program} (W : World) {ops : Array Oper} {rest : List Oper} {o : Oper} {a : Act} {Q : Exit → Act → World → Prop} (hgd : o.guard = none) (s x : Operand) (t : TypeId)
    (ho : o.op = .call { callee := .builtin .append, args := #[s, x], argTypes := #[t, t] })
    (e : TypeId) (ht : P.underlying t = some (.slice e)) (hinfo : (P.info? e).map (fun i => (i.zero, i.size, i.bytes)) = some (some (.int .u8 0), 1, 1))
    (B : Nat) (v : Value) (n : Nat) (xs : List Value) (hs : a.eval s = v) (hown : W.ownsRow B e 1 v n xs)
    (N : Nat) (hN : W.heap.size = N) (m : Nat) (cs : Array Value) (hx : a.eval x = .slice (some ⟨N, 0, none⟩) m m) (hm : cs.size = m) (h1 : ∀ u ∈ cs.toList, u.oneCell' = true) (h0 : 0 < m)
    (hb : n + m ≤ 140737488355328) (hB : B ≤ W.heap.size)
    (h : ∀ g cap w', w'.ownsRow B e 1 (.slice (some ⟨g, 0, none⟩) (n + m) cap) (n + m) (xs ++ cs.toList) → Grew W w' v (.slice (some ⟨g, 0, none⟩) (n + m) cap) → wpList P ops Q rest (a.put o.dst (.slice (some ⟨g, 0, none⟩) (n + m) cap)) w') :
    wpList P ops Q (o :: rest) a (W.alloc (.cells cs e)) := by
  obtain ⟨i, hi, hz0, hz1, hz2⟩ := info_parts hinfo
  subst hm
  subst hN
  refine wpList_append_lies (P := P) (W.alloc (.cells cs e)) hgd s x t ho B e i (.int .u8 0) 1 1 ht hi hz0 hz1 hz2 rfl (by decide) v n xs hs (hown.alloc _) ⟨W.heap.size, 0, none⟩ cs.size cs.size cs.toList hx (by simp)
    (World.news_of_block (heap_alloc_new W _)) h1 h0 (by unfold maxLen; omega) (by omega) (by simp; omega) (W.heap.size + 1) (by simp) ?_
  intro g cap w' hown' hgrow hat hlt
  refine h g cap w' hown' (Grew.ofAlloc ⟨hgrow, ?_⟩)
  rcases hat with hat | hat
  · exact .inl hat.symm
  · exact .inr ⟨g, rfl, by simp; omega⟩

/-- What another owned slice holds stays. -/
theorem Grew.owns {a c : World} {u v x : Value} {B : Nat} {e : TypeId} {s n : Nat} {xs : List Value} (h : Grew a c u v) (ho : a.ownsRow B e s x n xs) (hne : x.ownBlock ≠ u.ownBlock) : c.ownsRow B e s x n xs :=
  ho.kept h.by' (.inr hne)

/-- WHAT THE WALK IS TOLD OF A SLICE OF INTEGERS THAT CAME IN (the guide's words): it is nil; or it leads to a row of 'cap' cells, the numbers 'zs' (the first 'len' are its elements, the rest its spare room), each fitting its kind. -/
def IsRow (k : IntKind) (w : World) (a : Option Addr) (len cap : Nat) (zs : List Int) : Prop :=
  (a = none ∧ len = 0 ∧ cap = 0 ∧ zs = []) ∨
  ∃ x, a = some x ∧ len ≤ cap ∧ cap ≤ maxLen ∧ zs.length = cap ∧ (∀ i, i < zs.length → w.cell? (x.add i) = some (.int k (zs.getD i 0))) ∧ ∀ n ∈ zs, (Lit.int k n).wf = true

/-- The byte number i (from the least) of x. -/
def byteOf (x : Int) (i : Nat) : Int := x / 256 ^ i % 256
/-- The k low bytes of x, the most significant first. -/
def be (x : Int) : Nat → List Int
  | 0 => []
  | k + 1 => byteOf x k :: be x k
/-- As cells. -/
def bytesV (l : List Int) : List Value := l.map (Value.int .u8)

theorem bytesV_append (a b : List Int) : bytesV (a ++ b) = bytesV a ++ bytesV b := by simp [bytesV]
theorem length_bytesV (a : List Int) : (bytesV a).length = a.length := by simp [bytesV]
theorem length_be (x : Int) (k : Nat) : (be x k).length = k := by
  induction k with
  | zero => rfl
  | succ k ih => simp [be, ih]

theorem be_get (x : Int) : ∀ (cnt j : Nat), j < cnt → (be x cnt)[j]? = some (byteOf x (cnt - 1 - j))
  | 0, _, h => absurd h (by omega)
  | cnt + 1, 0, _ => by simp [be]
  | cnt + 1, j + 1, h => by
    simp only [be, List.getElem?_cons_succ]
    rw [be_get x cnt j (by omega)]
    congr 2; omega

theorem be_step (x : Int) (cnt k : Nat) (hk : k ≤ cnt) (h0 : 0 < k) : (be x cnt).take (cnt - (k - 1)) = (be x cnt).take (cnt - k) ++ [byteOf x (k - 1)] := by
  rw [show cnt - (k - 1) = cnt - k + 1 by omega, List.take_add_one, be_get x cnt (cnt - k) (by omega), show cnt - 1 - (cnt - k) = k - 1 by omega]
  rfl

/-- What one round of the loop that appends the bytes leaves. -/
theorem be_round {w : World} {B e n cnt k : Nat} {u : Value} {xs : List Value} {x : Int} (hk : k ≤ cnt) (h0 : 0 < k)
    (h : w.ownsRow B e 1 u (n + (cnt - k) + 1) ((xs ++ bytesV ((be x cnt).take (cnt - k))) ++ [.int .u8 (x / 2 ^ ((k - 1) * 8) % 256)])) :
    w.ownsRow B e 1 u (n + (cnt - (k - 1))) (xs ++ bytesV ((be x cnt).take (cnt - (k - 1)))) := by
  have e1 : n + (cnt - k) + 1 = n + (cnt - (k - 1)) := by omega
  have e2 : x / 2 ^ ((k - 1) * 8) % 256 = byteOf x (k - 1) := by
    unfold byteOf
    rw [Nat.mul_comm, Int.pow_mul]; rfl
  rw [be_step x cnt k hk h0, ← e1, ← e2, bytesV_append, ← List.append_assoc]
  exact h

end Go.Proofs.YbulkdjaiDoor
