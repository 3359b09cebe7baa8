/-
  THE LAW's OWN WALK: LawS5507CWhole out of the callees' contracts; the two loops at the end.
-/
import Derived.Test.YbulkdjaiClone
import Derived.WalkSmall
namespace Go.Proofs.Ybulkdjai
open Go.RowKit

/-- What both sides come to behind dst. -/
def tail20 (r ep sq : Int) (p : Bool) : List Int := [6] ++ be r 2 ++ be ep 8 ++ be sq 8 ++ [if p then 1 else 0]

theorem loop2 (B n : Nat) (v : Value) (xs : List Value) (x : Int) (w : World) (hown : w.ownsRow B 5 1 v n xs) (hB : B ≤ w.heap.size) (hn : n ≤ 1000000000) (hx0 : 0 ≤ x) (hx : x < 18446744073709551616) :
    Calls Yba.prog 6 #[v, .int .u64 x, .int .i64 2] w fun e w' => ∃ g cap, e = .returned (.slice (some ⟨g, 0, none⟩) (n + 2) cap) ∧
      w'.ownsRow B 5 1 (.slice (some ⟨g, 0, none⟩) (n + 2) cap) (n + 2) (xs ++ bytesV (be x 2)) ∧ Grew w w' v (.slice (some ⟨g, 0, none⟩) (n + 2) cap) := by
  have h := beloop B n 2 v xs x w hown hB hn (by omega) hx0 hx
  refine h.mono ?_
  rintro e w1 ⟨v', rfl, ho, hg⟩
  obtain ⟨g, cap, rfl, _⟩ := ho.form (by omega)
  exact ⟨g, cap, rfl, ho, hg⟩

theorem loop8 (B n : Nat) (v : Value) (xs : List Value) (x : Int) (w : World) (hown : w.ownsRow B 5 1 v n xs) (hB : B ≤ w.heap.size) (hn : n ≤ 1000000000) (hx0 : 0 ≤ x) (hx : x < 18446744073709551616) :
    Calls Yba.prog 6 #[v, .int .u64 x, .int .i64 8] w fun e w' => ∃ g cap, e = .returned (.slice (some ⟨g, 0, none⟩) (n + 8) cap) ∧
      w'.ownsRow B 5 1 (.slice (some ⟨g, 0, none⟩) (n + 8) cap) (n + 8) (xs ++ bytesV (be x 8)) ∧ Grew w w' v (.slice (some ⟨g, 0, none⟩) (n + 8) cap) := by
  have h := beloop B n 8 v xs x w hown hB hn (by omega) hx0 hx
  refine h.mono ?_
  rintro e w1 ⟨v', rfl, ho, hg⟩
  obtain ⟨g, cap, rfl, _⟩ := ho.form (by omega)
  exact ⟨g, cap, rfl, ho, hg⟩

theorem isRow_at {k : IntKind} {w : World} {a : Option Addr} {len cap : Nat} {zs : List Int} (h : IsRow k w a len cap zs) (hp : 0 < len) :
    ∃ b off, a = some ⟨b, off, none⟩ ∧ b < w.heap.size ∧ ∀ j, j < len → w.cell? ⟨b, off + j, none⟩ = some (.int k (zs.getD j 0)) := by
  rcases h with ⟨_, rfl, _⟩ | ⟨x, rfl, hl, _, hz, hc, _⟩
  · omega
  · obtain ⟨b, off, rfl, hj⟩ := ints_at hc (by omega)
    exact ⟨b, off, rfl, block_lt_of_cell (hj 0 (by omega)), fun j h => hj j (by omega)⟩

theorem isRow_len {k : IntKind} {w : World} {a : Option Addr} {len cap : Nat} {zs : List Int} (h : IsRow k w a len cap zs) : (zs.take len).length = len := by
  rcases h with ⟨_, rfl, rfl, rfl⟩ | ⟨x, rfl, hl, _, hz, _⟩
  · rfl
  · simp; omega

/-- The cells of an owned row of bytes. -/
theorem row_cell {w : World} {B e g n cap : Nat} {l : List Int} (h : w.ownsRow B e 1 (.slice (some ⟨g, 0, none⟩) n cap) n (bytesV l)) (j : Nat) (hj : j < n) : w.cell? ⟨g, j, none⟩ = some (.int .u8 (l.getD j 0)) := by
  have hl : l.length = n := by have := h.1; simpa [bytesV] using this
  rw [h.cellAt j (by omega)]
  simp [bytesV, List.getElem?_eq_getElem (show j < l.length by omega)]

/-- Everything that the two loops at the end read. -/
structure Ends (w : World) (g g7 len0 : Nat) (z0 T : List Int) : Prop where
  got : ∀ i, i < len0 → w.cell? ⟨g, i, none⟩ = some (.int .u8 (z0.getD i 0))
  tail : ∀ i, i < 20 → w.cell? ⟨g, len0 + i, none⟩ = some (.int .u8 (T.getD i 0))
  exp : ∀ i, i < 20 → w.cell? ⟨g7, i, none⟩ = some (.int .u8 (T.getD i 0))

theorem ends {w : World} {B B' e g g7 len0 cap cap7 : Nat} {z0 T : List Int} (hz : (z0.take len0).length = len0)
    (h1 : w.ownsRow B e 1 (.slice (some ⟨g, 0, none⟩) (len0 + 20) cap) (len0 + 20) (bytesV (z0.take len0) ++ bytesV T))
    (h2 : w.ownsRow B' e 1 (.slice (some ⟨g7, 0, none⟩) 20 cap7) 20 (bytesV T)) : Ends w g g7 len0 z0 T := by
  rw [← bytesV_append] at h1
  refine ⟨fun i hi => ?_, fun i hi => ?_, fun i hi => row_cell h2 i hi⟩
  · rw [row_cell h1 i (by omega)]
    congr 2
    rw [List.getD_eq_getElem?_getD, List.getD_eq_getElem?_getD, List.getElem?_append_left (by omega), List.getElem?_take, if_pos hi]
  · rw [row_cell h1 (len0 + i) (by omega)]
    congr 2
    rw [List.getD_eq_getElem?_getD, List.getD_eq_getElem?_getD, List.getElem?_append_right (by omega), hz, Nat.add_sub_cancel_left]

set_option maxHeartbeats 4000000 in
theorem lawWalk (a0 : Option Addr) (len0 cap0 : Nat) (z0 : List Int) (r ep sq : Int) (p : Bool) (w : World) (h0 : IsRow .u8 w a0 len0 cap0 z0)
    (hr0 : 0 ≤ r) (hr : r < 65536) (he0 : 0 ≤ ep) (he : ep < 18446744073709551616) (hs0 : 0 ≤ sq) (hs : sq < 18446744073709551616) (hn : len0 ≤ 1048576) :
    Calls Yba.prog 3 #[.slice a0 len0 cap0, .int .u16 r, .int .u64 ep, .int .u64 sq, .bool p] w fun e w' => e = .returned (.bool true) ∧ Below w.heap.size w w' := by
  have hmk : ∀ w, (Instr.makeSlice 22 (.int .i64 0) (.int .i64 20)).run Yba.prog w = .ok (.slice (some ⟨w.heap.size, 0, none⟩) 0 20) (w.alloc (.cells #[.int .u8 0, .int .u8 0, .int .u8 0, .int .u8 0, .int .u8 0, .int .u8 0, .int .u8 0, .int .u8 0, .int .u8 0, .int .u8 0, .int .u8 0, .int .u8 0, .int .u8 0, .int .u8 0, .int .u8 0, .int .u8 0, .int .u8 0, .int .u8 0, .int .u8 0, .int .u8 0] 5)) := fun _ => by kernel_rfl
  have hd : decide (1048576 < (len0 : Int)) = false := by simp; omega
  go_enter Yba.func3, Yba.ntmps3
  go_wp2_with fail
  refine (clone a0 len0 cap0 z0 _ h0 hn).mono ?_
  rintro e w1 ⟨v1, rfl, hown1, hbel1⟩
  have hz1 := hbel1.size
  have hne1 : v1.ownBlock ≠ some w1.heap.size := by
    intro h; have := (hown1.lt _ h).2; omega
  go_wp2_with fail
  refine (query w.heap.size len0 w1.heap.size v1 _ r ep sq p _ (hown1.alloc _) (by simp; omega) (by omega) (by simp) (by simp) (by simp) (by simp) (by simp) hne1 hr0 hr he0 he hs0 hs).mono ?_
  rintro e w2 ⟨g, cap, rfl, hown2, hgrow2⟩
  have q0 := hgrow2.cell (p := ⟨w1.heap.size, 0, none⟩) (by simp) hne1
  have q1 := hgrow2.cell (p := ⟨w1.heap.size, 1, none⟩) (by simp) hne1
  have q2 := hgrow2.cell (p := ⟨w1.heap.size, 2, none⟩) (by simp) hne1
  have q3 := hgrow2.cell (p := ⟨w1.heap.size, 3, none⟩) (by simp) hne1
  simp only [go_sem] at q0 q1 q2 q3
  have hB2 := hgrow2.below (by simp; omega) (hown1.alloc _)
  have hbel2 : Below w.heap.size w w2 := (hbel1.alloc (by omega) _).trans hB2
  have hz2 := hbel2.size
  have hg2 : g < w2.heap.size := (hown2.lt g rfl).2
  clear hgrow2 hB2 hown1 hbel1
  have ho3 : (w2.alloc (.cells #[.int .u8 0, .int .u8 0, .int .u8 0, .int .u8 0, .int .u8 0, .int .u8 0, .int .u8 0, .int .u8 0, .int .u8 0, .int .u8 0, .int .u8 0, .int .u8 0, .int .u8 0, .int .u8 0, .int .u8 0, .int .u8 0, .int .u8 0, .int .u8 0, .int .u8 0, .int .u8 0] 5)).ownsRow w2.heap.size 5 1 (.slice (some ⟨w2.heap.size, 0, none⟩) 0 20) 0 [] :=
    World.ownsRow_made (base := w2.heap.size) (e := 5) (size := 1) w2 _ 20 (Nat.le_refl _) (by unfold maxLen; omega) rfl
  go_wp2_with (at_builtin; go_must (refine wpList_app _ rfl _ _ 22 rfl 5 Yba.underlying22 info5 w2.heap.size _ 0 [] (by rfl) ho3 (w2.heap.size + 1) (by simp) 1 _ (by rfl) (by rfl) (by simp [Value.oneCell']) (by omega) (by omega) (by simp) ?_); intro g3 cap3 w3 hown3 hgrow3)
  have z3 := hgrow3.ofAlloc.size
  refine (loop2 w2.heap.size 1 _ _ r _ hown3 z3 (by omega) hr0 (by omega)).mono ?_
  rintro e w4 ⟨g4, cap4, rfl, hown4, hgrow4⟩
  have G4 := hgrow3.trans hgrow4
  have z4 := G4.ofAlloc.size
  clear hgrow3 hgrow4 hown3
  go_wp2_with fail
  refine (loop8 w2.heap.size 3 _ _ ep _ hown4 z4 (by omega) he0 he).mono ?_
  rintro e w5 ⟨g5, cap5, rfl, hown5, hgrow5⟩
  have G5 := G4.trans hgrow5
  have z5 := G5.ofAlloc.size
  clear hgrow5 hown4 G4
  go_wp2_with fail
  refine (loop8 w2.heap.size 11 _ _ sq _ hown5 z5 (by omega) hs0 hs).mono ?_
  rintro e w6 ⟨g6, cap6, rfl, hown6, hgrow6⟩
  have G6 := G5.trans hgrow6
  have z6 := G6.ofAlloc.size
  clear hgrow6 hown5 G5 ho3
  obtain ⟨T, hT⟩ : ∃ T, T = tail20 r ep sq p := ⟨_, rfl⟩
  have hown2' : w2.ownsRow w.heap.size 5 1 (.slice (some ⟨g, 0, none⟩) (len0 + 20) cap) (len0 + 20) (bytesV (z0.take len0) ++ bytesV T) := by rw [hT]; exact hown2
  have HT : Hid (T = tail20 r ep sq p) := hT
  clear hT hown2
  cases p
  all_goals
    go_wp2_with (at_builtin; go_must (refine wpList_app w6 rfl _ _ 22 rfl 5 Yba.underlying22 info5 w2.heap.size _ 19 _ (by rfl) hown6 w6.heap.size (by simp) 1 _ (by rfl) (by rfl) (by simp [Value.oneCell']) (by omega) (by omega) (by omega) ?_); intro g7 cap7 w7 hown7 hgrow7)
    have G7 := G6.trans hgrow7
    clear hgrow7 hown6 G6
    have hbel7 : Below w.heap.size w w7 := (hbel2.alloc (by omega) _).grown G7.by' (by simp; omega) (by intro k hk; simp [Value.ownBlock] at hk; omega)
    have E : Ends w7 g g7 len0 z0 T := ends (isRow_len h0) (G7.owns (hown2'.alloc _) (by simp [Value.ownBlock]; omega)) (by rw [HT.out]; simpa [tail20, bytesV] using hown7)
    have hi : ∀ k, k < len0 → ∃ b off, a0 = some ⟨b, off, none⟩ ∧ w7.cell? ⟨b, off + k, none⟩ = some (.int .u8 (z0.getD k 0)) := by
      intro k hk
      obtain ⟨b, off, h1, h2, h3⟩ := isRow_at h0 (by omega)
      exact ⟨b, off, h1, (hbel7.cell h2).trans (h3 k hk)⟩
    clear hown7 G7 hown2' hbel2 q0 q1 q2 q3 hmk HT
    go_loopw [15] (fun i wr => ∃ k m : Nat, k ≤ len0 ∧ i = .int .i64 k ∧ wr = w7.drewN m) (fun i _ => len0 - (intOf i).toNat)
    case atStart => exact ⟨0, 0, Nat.zero_le _, rfl, rfl⟩
    case round =>
      obtain ⟨k, m, hk, rfl, rfl⟩ := hrel
      by_cases hlt : k < len0
      · obtain ⟨b, off, rfl, hcell⟩ := hi k hlt
        have hgot := E.got k hlt
        have hlt' : (k : Int) < (len0 : Int) + 20 := by omega
        go_wp2_with fail
        go_quiet (fail)
        go_wp2_with fail
        go_roundw
        case rel => exact ⟨k + 1, _, by omega, by go_num, rfl⟩
        case measure => simp [intOf]; omega
      · go_wp2_with fail
        go_loopw [16] (fun i wr => ∃ k m : Nat, k ≤ 20 ∧ i = .int .i64 k ∧ wr = w7.drewN m) (fun i _ => 20 - (intOf i).toNat)
        case atStart => exact ⟨0, _, Nat.zero_le _, rfl, rfl⟩
        case round =>
          obtain ⟨j, m', hj, rfl, rfl⟩ := hrel
          by_cases hlj : j < 20
          · have htail := E.tail j hlj
            have hexp := E.exp j hlj
            have hlj' : (j : Int) < 20 := by omega
            have hlj2 : (len0 : Int) + (j : Int) < (len0 : Int) + 20 := by omega
            go_wp2_with fail
            go_quiet (fail)
            go_wp2_with fail
            go_roundw
            case rel => exact ⟨j + 1, _, by omega, by go_num, rfl⟩
            case measure => simp [intOf]; omega
          · go_wp2_with fail
            go_ret
            exact ⟨rfl, below_drewN hbel7 _⟩

theorem lawLong (a0 : Option Addr) (len0 cap0 : Nat) (r ep sq : Int) (p : Bool) (w : World) (hn : ¬ len0 ≤ 1048576) :
    Calls Yba.prog 3 #[.slice a0 len0 cap0, .int .u16 r, .int .u64 ep, .int .u64 sq, .bool p] w fun e w' => e = .returned (.bool true) ∧ Below w.heap.size w w' := by
  go_enter Yba.func3, Yba.ntmps3
  go_wp2_with fail
  go_ret
  exact ⟨rfl, Below.refl _ _⟩
end Go.Proofs.Ybulkdjai
