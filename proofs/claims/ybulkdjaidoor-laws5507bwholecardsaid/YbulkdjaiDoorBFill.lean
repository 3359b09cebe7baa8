/-
  fillItems, walked over this dump; what the items of a VIEW-CHANGE are, in plain words (scan).
-/
import Derived.Test.YbulkdjaiDoorBSmall
import Derived.Deep.RegionHeld3
import Derived.Laws.Runes
namespace Go.Proofs.YbulkdjaiDoor.B
open Go.RowKit

/-- The length that is written at p. -/
def num (l : List Int) (p : Nat) : Nat := (l.getD p 0 * 256 + l.getD (p + 1) 0).toNat

/-- THE ITEMS FROM p ON: where each begins and how long it is; none: not well formed. -/
def scan (l : List Int) : Nat → Nat → Option (List (Nat × Nat))
  | 0, _ => none
  | f + 1, p =>
    if l.length ≤ p then some []
    else if l.length < p + 2 then none
    else if num l p = 0 ∨ l.length < p + 2 + num l p ∨ okK (l.getD (p + 2) 0) = false then none
    else (scan l f (p + 2 + num l p)).map ((p + 2, num l p) :: ·)

theorem num_eq {l : List Int} (h : Byt l) (p : Nat) : l.getD (p + 1) 0 + l.getD p 0 * 256 = (num l p : Int) ∧ num l p < 65536 := by
  have h0 := h.getD p
  have h1 := h.getD (p + 1)
  unfold num
  omega

/-- What a scan that comes to its end says of its first item. -/
theorem scan_cons {l : List Int} {f p : Nat} {x : Nat × Nat} {ys : List (Nat × Nat)} (h : scan l f p = some (x :: ys)) :
    ∃ f', f = f' + 1 ∧ x = (p + 2, num l p) ∧ 0 < num l p ∧ p + 2 + num l p ≤ l.length ∧ okK (l.getD (p + 2) 0) = true ∧ scan l f' (p + 2 + num l p) = some ys := by
  cases f with
  | zero => simp [scan] at h
  | succ f' =>
    rw [scan] at h
    split at h
    · cases h
    · split at h
      · cases h
      · split at h
        · cases h
        · rename_i h1 h2 h3
          cases hs : scan l f' (p + 2 + num l p) with
          | none => rw [hs] at h; cases h
          | some zs =>
            rw [hs] at h
            injection h with h
            injection h with e1 e2
            refine ⟨f', rfl, e1.symm, by omega, by omega, ?_, by rw [hs, e2]⟩
            cases ho : okK (l.getD (p + 2) 0) with
            | true => rfl
            | false => exact absurd (.inr (.inr ho)) h3

def sliceLen : Value → Nat
  | .slice _ n _ => n
  | _ => 0

/-- The first i items are laid in block M. -/
def Laid (w : World) (M cnt i g : Nat) (xs : List (Nat × Nat)) : Prop :=
  ∃ cs : Array Value, w.heap[M]? = some (.cells cs 25 (0, 0)) ∧ cs.size = cnt ∧ ∀ j, j < i → cs[j]? = some (.slice (some ⟨g, (xs.getD j (0, 0)).1, none⟩) (xs.getD j (0, 0)).2 (xs.getD j (0, 0)).2)

set_option maxHeartbeats 4000000 in
set_option maxRecDepth 100000 in
theorem fill_any (g M p0 c0 : Nat) (a0 : Option Addr) (l : List Int) (hby : Byt l) (f0 : Nat) (xs : List (Nat × Nat)) (w : World) (hgM : g < M) (_hlen : l.length ≤ 10000000) (hxs : xs.length ≤ 10000000) (hp0 : p0 ≤ l.length)
    (hsc : scan l f0 p0 = some xs) (hM : Laid w M xs.length 0 g xs) (ha0 : 0 < l.length - p0 → a0 = some ⟨g, p0, none⟩) (hc0 : l.length - p0 ≤ c0)
    (hc : ∀ j, j < l.length → w.cell? ⟨g, j, none⟩ = some (.int .u8 (l.getD j 0))) :
    Calls Ybad.prog 23 #[.slice (some ⟨M, 0, none⟩) xs.length xs.length, .slice a0 (l.length - p0) c0] w fun e w' => e = .returned (.slice (some ⟨M, 0, none⟩) xs.length xs.length) ∧ Laid w' M xs.length xs.length g xs ∧ Below M w w' := by
  have HC := hide hc
  clear hc
  have hMs : M < w.heap.size := by obtain ⟨cs, h, _⟩ := hM; exact (Array.getElem?_eq_some_iff.1 h).1
  go_enter Ybad.func23, Ybad.ntmps23
  go_wp2_with fail
  go_loopw [1, 9] (fun rv iv wr => ∃ i p f c : Nat, ∃ a : Option Addr, i ≤ xs.length ∧ iv = .int .i64 i ∧ p ≤ l.length ∧ scan l f p = some (xs.drop i) ∧ rv = .slice a (l.length - p) c ∧ (0 < l.length - p → a = some ⟨g, p, none⟩) ∧ l.length - p ≤ c ∧ Laid wr M xs.length i g xs ∧ Below M w wr) (fun _ iv _ => (xs.length - intOf iv).toNat)
  case atStart => exact ⟨0, p0, f0, c0, a0, by omega, rfl, hp0, by simpa using hsc, rfl, ha0, hc0, hM, Below.refl _ _⟩
  case round =>
    obtain ⟨i, p, f, c, a, hi, rfl, hp, hscan, rfl, ha, hcap, hlaid, hbel⟩ := hrel
    by_cases h : i < xs.length
    · rw [List.drop_eq_getElem_cons h] at hscan
      obtain ⟨f', rfl, hx, hn0, hnl, _, hrest⟩ := scan_cons hscan
      obtain rfl := ha (by omega)
      have hbN := num_eq hby p
      have k0 := HC.out p (by omega)
      have k1 := HC.out (p + 1) (by omega)
      rw [← hbel.cell (p := ⟨g, p, none⟩) hgM] at k0
      rw [← hbel.cell (p := ⟨g, p + 1, none⟩) hgM] at k1
      have b0 := hby.getD p
      have b1 := hby.getD (p + 1)
      have hbs := hbel.size
      have HLAID := hide hlaid
      have HBEL := hide hbel
      have HREST := hide hrest
      have HX := hide hx
      clear hlaid hbel hrest hx hscan ha hM hsc
      have hdi : decide ((i : Int) < (xs.length : Int)) = true := by simp; omega
      go_wp2_with fail
      refine (u16_any g p (l.length - p) c _ _ wr (by omega) b0 b1 k0 k1).mono ?_
      rintro e w1 ⟨rfl, k, rfl⟩
      rw [hbN.1]
      obtain ⟨W1, HW1⟩ : ∃ W1, Hid (W1 = (wr.alloc (.cells #[] 53)).drewN k) := ⟨_, rfl⟩
      rw [← HW1.out]
      have hb1 : Below wr.heap.size wr W1 := by rw [HW1.out]; exact ((Below.refl _ _).alloc (Nat.le_refl _) _).trans (Joins.below_draws _ _ _)
      obtain ⟨cs, hrow, hsz, hcs⟩ := HLAID.out
      have hrow1 : W1.heap[M]? = some (.cells cs 25 (0, 0)) := (hb1.block M (by omega)).trans hrow
      have hold : W1.cell? ⟨M, i, none⟩ = some cs[i] := by rw [Joins.cell_of_block hrow1]; simp [hsz, h]
      have hfz := Joins.unfrozen_of_block hrow1 i
      have HCS := hide hcs
      have HROW1 := hide hrow1
      have HB1 := hide hb1
      clear hcs hrow hrow1 hb1 HW1
      obtain ⟨N, HN⟩ : ∃ N, Hid (N = num l p) := ⟨_, rfl⟩
      rw [← HN.out] at hbN hn0 hnl ⊢
      obtain ⟨m, HM⟩ : ∃ m, Hid (m = l.length - p) := ⟨_, rfl⟩
      have hm : 2 + N ≤ m := by rw [HM.out]; omega
      rw [← HM.out] at hcap ⊢
      have hN16 := hbN.2
      have i1 : (2 : Int) + (N : Int) ≤ (c : Int) := by omega
      have i2 : (2 : Int) + (N : Int) ≤ (m : Int) := by omega
      have i3 : (m : Int) ≤ (c : Int) := by omega
      have i4 : ¬ N = 0 := by omega
      have i5 : (i : Int) < (xs.length : Int) := by omega
      have i6 : IntKind.i64.wrap (2 + (N : Int)) = 2 + (N : Int) := wrap_small _ (by omega) (by omega)
      have i7 : (2 : Int) ≤ 2 + (N : Int) := by omega
      have i8 : (0 : Int) ≤ 2 + (N : Int) := by omega
      clear k0 k1 b0 b1 hbN
      have HN0 := hide hn0
      clear hn0
      go_wp2_with fail
      go_region_held3 (fun _ => True) (go_keep) (fail)
      have eT : (2 + (N : Int)).toNat = 2 + N := by omega
      have eD : 2 + N - 2 = N := by omega
      have eI : ¬ (2 + N = 2) := by omega
      simp only [eT, eD, if_neg eI]
      have hL2 : Laid (W1.setCell ⟨M, i, none⟩ (.slice (some ⟨g, p + 2, none⟩) N N)).drew M xs.length (i + 1) g xs := by
        refine ⟨cs.setIfInBounds i (.slice (some ⟨g, p + 2, none⟩) N N), Joins.block_setCell (w := W1) HROW1.out _, by simpa using hsz, fun j hj => ?_⟩
        rw [Array.getElem?_setIfInBounds]
        by_cases e : i = j
        · subst e
          have hxi : xs.getD i (0, 0) = (p + 2, N) := by
            rw [List.getD_eq_getElem?_getD, List.getElem?_eq_getElem h, HN.out]; exact HX.out
          rw [if_pos rfl, if_pos (by omega), hxi]
        · rw [if_neg e]; exact HCS.out j (by omega)
      have hB2 : Below M w (W1.setCell ⟨M, i, none⟩ (.slice (some ⟨g, p + 2, none⟩) N N)).drew := ((HBEL.out.trans (HB1.out.mono (by omega))).setCell (Nat.le_refl _) _).drew
      have HL2 := hide hL2
      have HB2 := hide hB2
      clear hL2 hB2 hold hfz
      go_wp2_with fail
      go_roundw
      case rel =>
        refine ⟨i + 1, p + 2 + N, f', c - (2 + N), if c = 2 + N then some ⟨g, p, none⟩ else some ⟨g, p + (2 + N), none⟩, by omega, by simp, by omega, by rw [HN.out]; exact HREST.out, ?_, ?_, ?_, HL2.out, HB2.out⟩
        · rw [show l.length - (p + 2 + N) = m - (2 + N) by rw [HM.out]; omega]
        · intro hpos
          rw [if_neg (by have := HM.out; omega), Nat.add_assoc]
        · have := HM.out; omega
      case measure => simp [intOf]; omega
    · obtain rfl : i = xs.length := by omega
      have HLAID := hide hlaid
      have HBEL := hide hbel
      clear hlaid hbel
      go_wp2_with fail
      go_ret
      exact ⟨rfl, HLAID.out, HBEL.out⟩
end Go.Proofs.YbulkdjaiDoor.B
