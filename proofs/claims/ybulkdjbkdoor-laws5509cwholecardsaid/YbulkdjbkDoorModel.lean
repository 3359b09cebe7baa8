/-
  zzs5509cmodel, walked over this dump: three loops; the text by places.
-/
import Derived.Test.YbulkdjbkDoorText
namespace Go.Proofs.YbulkdjbkDoor
open Go.RowKit

/-- The array d, its first k places written. -/
structure Laid (B u k : Nat) (w wr : World) : Prop where
  row : ∃ cur : Array Value, wr.heap[B]? = some (.cells cur 37 (0, 0)) ∧ cur.size = 24 ∧ ∀ j, j < k → cur[j]? = some (.int .u8 (dI u j))
  below : Below B w wr

theorem Laid.cell {B u k : Nat} {w wr : World} (h : Laid B u k w wr) (j : Nat) (hj : j < k) : wr.cell? ⟨B, j, none⟩ = some (.int .u8 (dI u j)) := by
  obtain ⟨cur, h1, _, h3⟩ := h.row
  rw [cell_of_row wr B j cur 37 (0, 0) h1]; exact h3 j hj
theorem Laid.there {B u k : Nat} {w wr : World} (h : Laid B u k w wr) (j : Nat) (hj : j < 24) : ∃ x, wr.cell? ⟨B, j, none⟩ = some x := by
  obtain ⟨cur, h1, h2, _⟩ := h.row
  rw [cell_of_row wr B j cur 37 (0, 0) h1]
  exact ⟨_, Array.getElem?_eq_getElem (by omega)⟩
theorem Laid.free {B u k : Nat} {w wr : World} (h : Laid B u k w wr) (j : Nat) : wr.frozen? ⟨B, j, none⟩ = false := by
  obtain ⟨cur, h1, _⟩ := h.row
  exact frozen_of_row wr B j cur 37 h1
theorem Laid.store {B u k : Nat} {w wr : World} (h : Laid B u k w wr) (hk : k < 24) (x : Int) (hx : x = dI u k) : Laid B u (k + 1) w (wr.setCell ⟨B, k, none⟩ (.int .u8 x)) := by
  subst hx
  obtain ⟨cur, h1, h2, h3⟩ := h.row
  refine ⟨⟨cur.setIfInBounds k (.int .u8 (dI u k)), heap_setCell_same wr B k cur 37 _ h1, by simp [h2], fun j hj => ?_⟩, h.below.setCell (Nat.le_refl _) _⟩
  rw [Array.getElem?_setIfInBounds]
  by_cases e : k = j
  · subst e; rw [if_pos rfl, if_pos (by omega)]
  · rw [if_neg e]; exact h3 j (by omega)
/-- What is owned elsewhere may grow. -/
theorem Laid.grew {B u k : Nat} {w wr wr' : World} {v v' : Value} (h : Laid B u k w wr) (hg : Grew wr wr' v v') (hne : v.ownBlock ≠ some B) (hv : ∀ b, v.ownBlock = some b → B ≤ b) (hB : B ≤ wr.heap.size) : Laid B u k w wr' := by
  obtain ⟨cur, h1, h2⟩ := h.row
  exact ⟨⟨cur, (hg.block (lt_of_block h1) hne).trans h1, h2⟩, h.below.grown hg.by' hB hv⟩

theorem places_round {w : World} {B e n0 j l g cap : Nat} {sg : List Int} {u : Nat} (hl : l ≤ j) (h0 : 0 < l)
    (h : w.ownsRow B e 1 (.slice (some ⟨g, 0, none⟩) (n0 + (j - l) + 1) cap) (n0 + (j - l) + 1) (bytesV (sg ++ places u j (j - l)) ++ [.int .u8 (dI u (l - 1))])) :
    w.ownsRow B e 1 (.slice (some ⟨g, 0, none⟩) (n0 + (j - (l - 1))) cap) (n0 + (j - (l - 1))) (bytesV (sg ++ places u j (j - (l - 1)))) := by
  rw [show j - (l - 1) = j - l + 1 by omega, places_succ, show j - 1 - (j - l) = l - 1 by omega, ← List.append_assoc, bytesV_append, ← Nat.add_assoc]
  exact h

theorem div_step (u k : Nat) : u / 10 ^ k / 10 = u / 10 ^ (k + 1) := by rw [Nat.div_div_eq_div_mul, Nat.pow_succ]

set_option maxHeartbeats 4000000 in
theorem model_neg (u : Nat) (hu0 : 0 < u) (hu : u ≤ 9223372036854775808) (w : World) :
    Calls Ybad.prog 8 #[.int .i64 (-(u : Int))] w fun e w' => ∃ g cap, e = .returned (.slice (some ⟨g, 0, none⟩) (1 + wide u) cap) ∧
      w'.ownsRow (w.heap.size + 1) 5 1 (.slice (some ⟨g, 0, none⟩) (1 + wide u) cap) (1 + wide u) (bytesV ([45] ++ places u (wide u) (wide u))) ∧ Below w.heap.size w w' := by
  have hu64 : u < 18446744073709551616 := by omega
  have hnd := nd_le u hu64
  have hnp := Lib.nDigits_pos u
  have hd : decide (-(u : Int) < 0) = true := by simp; omega
  have HW : Hid (-(-(u : Int) + 1) + 1 = (u : Int)) := by show _ = _; omega
  go_enter Ybad.func8, Ybad.ntmps8
  go_wp2_with fail
  simp only [HW.out]
  go_loopw [4, 6] (fun m n wr => ∃ k : Nat, k < Lib.nDigits u ∧ m = .int .u64 ((u / 10 ^ k : Nat) : Int) ∧ n = .int .i64 k ∧ Laid w.heap.size u k w wr) (fun _ n _ => 24 - (intOf n).toNat)
  case atStart =>
    refine ⟨0, hnp, by simp, rfl, ⟨⟨_, heap_alloc_new w _, rfl, fun j hj => absurd hj (by omega)⟩, (Below.refl _ _).alloc (Nat.le_refl _) _⟩⟩
  case round =>
    obtain ⟨k, hk, rfl, rfl, hL⟩ := hrel
    obtain ⟨x, hc⟩ := hL.there k (by omega)
    have hf := hL.free k
    have hle : u / 10 ^ k ≤ u := Nat.div_le_self _ _
    have hk24 : (k : Int) < 24 := by omega
    have hL2 := hL.store (by omega) (48 + ((u / 10 ^ k : Nat) : Int) % 10) (by unfold dI; omega)
    have hend := nd_end u k hk
    have hds := div_step u k
    have HD : Hid (u / 10 ^ k / 10 = u / 10 ^ (k + 1)) := hds
    have HE : Hid ((u / 10 ^ (k + 1) = 0) ↔ k + 1 = Lib.nDigits u) := hend
    clear hds hend
    generalize u / 10 ^ k = m at *
    by_cases hm : m / 10 = 0
    · have hb : ((m : Int) / 10 == 0) = true := by rw [beq_iff_eq]; omega
      have hkn : k + 1 = Lib.nDigits u := HE.out.1 (by rw [← HD.out]; exact hm)
      have HKN : Hid (k + 1 = Lib.nDigits u) := hkn
      clear hkn
      go_wp2_with fail
      clear hc hf hL x
      have hm0 : (m : Int) / 10 = 0 := by omega
      go_loopw [6] (fun n wr2 => ∃ j : Nat, Lib.nDigits u ≤ j ∧ j ≤ wide u ∧ n = .int .i64 j ∧ Laid w.heap.size u j w wr2) (fun n _ => 24 - (intOf n).toNat)
      case atStart => exact ⟨k + 1, by rw [HKN.out]; exact Nat.le_refl _, by rw [HKN.out]; unfold wide; omega, by go_num, hL2⟩
      case round =>
        obtain ⟨j, hj1, hj2, rfl, hM⟩ := hrel
        have hwide : wide u ≤ 20 := by unfold wide; omega
        by_cases hj4 : j < 4
        · obtain ⟨x, hc⟩ := hM.there j (by omega)
          have hf := hM.free j
          have hM2 := hM.store (by omega) 48 (dI_pad u j hj1).symm
          have hjw : j + 1 ≤ wide u := by unfold wide; omega
          have hj24 : (j : Int) < 24 := by omega
          go_wp2_with fail
          go_roundw
          case rel => exact ⟨j + 1, by omega, hjw, by go_num, hM2⟩
          case measure => simp [intOf]; omega
        · have hjw : j = wide u := by unfold wide at *; omega
          have HJ : Hid (j = wide u) := hjw
          clear hjw hL2
          obtain ⟨i0, hi, hz0, hz1, hz2⟩ := info_parts info5
          have hsz := lt_of_block hM.row.choose_spec.1
          have hj4' : decide ((j : Int) < 4) = false := by simp; omega
          have hB6 : Below w.heap.size w wr := hM.below
          go_wp2_with (first
            | (at_make; go_must (refine wpList_make_own _ rfl _ _ 27 rfl (w.heap.size + 1) 5 i0 (.int .u8 0) 1 Ybad.underlying27 hi hz0 hz1 .i64 .i64 _ (j + 1) (by rfl) (by rfl) (by omega) (by rw [hz2]; omega) (by unfold maxLen; omega) (by omega) ?_); intro w5 hown5 hgrow5; have z5 := hgrow5.size)
            | (at_builtin; go_must (refine wpList_app w5 rfl _ _ 27 rfl 5 Ybad.underlying27 info5 (w.heap.size + 1) wr.heap.size (j + 1) 0 _ (by rfl) hown5 w5.heap.size rfl 1 _ (by rfl) (by rfl) (by simp [Value.oneCell']) (by omega) (by omega) (by omega) ?_); intro g6 cap6 w6 hown6 hgrow6))
          have hL5 := hM.grew (Grew.ofNil hgrow5 (.inl rfl)) (v := .slice none 0 0) (v' := .slice none 0 0) (by simp [Value.ownBlock]) (by intro b hb; simp [Value.ownBlock] at hb) (by omega)
          have hLS := hL5.grew hgrow6 (by simp [Value.ownBlock]; omega) (by intro b hb; simp [Value.ownBlock] at hb; omega) (by omega)
          have hownS : w6.ownsRow (w.heap.size + 1) 5 1 (.slice (some ⟨g6, 0, none⟩) 1 cap6) 1 (bytesV [45]) := by simpa [bytesV] using hown6
          clear hL5 hgrow6 hown6 hgrow5 hown5
          clear hM hB6 hi hz0 hz1 hz2
          go_loopw [7, 8] (fun v i wr => ∃ l g cap : Nat, l ≤ j ∧ i = .int .i64 ((l : Int) - 1) ∧ v = .slice (some ⟨g, 0, none⟩) (1 + (j - l)) cap ∧
              wr.ownsRow (w.heap.size + 1) 5 1 (.slice (some ⟨g, 0, none⟩) (1 + (j - l)) cap) (1 + (j - l)) (bytesV ([45] ++ places u j (j - l))) ∧ Laid w.heap.size u j w wr) (fun _ i _ => (intOf i + 1).toNat)
          case atStart => exact ⟨j, g6, cap6, Nat.le_refl _, rfl, by simp, by simpa [places] using hownS, hLS⟩
          case round =>
            obtain ⟨l, g, cap, hl, rfl, rfl, hown7, hL7⟩ := hrel
            have hz7 := hL7.below.size
            have hs7 := lt_of_block hL7.row.choose_spec.1
            by_cases hl0 : 0 < l
            · have hcl := hL7.cell (l - 1) (by omega)
              have hl24 : (l : Int) - 1 < 24 := by omega
              have hl1 : (0 : Int) ≤ (l : Int) - 1 := by omega
              have hto : ((l : Int) - 1).toNat = l - 1 := by omega
              go_wp2_with (at_builtin; go_must (refine wpList_app wr rfl _ _ 27 rfl 5 Ybad.underlying27 info5 (w.heap.size + 1) g cap (1 + (j - l)) _ (by rfl) hown7 wr.heap.size rfl 1 _ (by rfl) (by rfl) (by simp [Value.oneCell']) (by omega) (by omega) (by omega) ?_); intro g8 cap8 w8 hown8 hgrow8)
              have R := places_round hl hl0 hown8
              have hL8 := hL7.grew hgrow8 (by have := (hown7.lt g rfl).1; simp [Value.ownBlock]; omega) (by intro b hb; have := (hown7.lt b hb).1; omega) (by omega)
              clear hown8 hgrow8 hown7 hL7
              go_wp2_with fail
              go_roundw
              case rel => exact ⟨l - 1, g8, cap8, by omega, by go_num, by first | (rw [show 1 + (j - (l - 1)) = 1 + (j - l) + 1 by omega]; done) | (rw [show 1 + (j - (l - 1)) = j - l + 1 by omega]; done), R, hL8⟩
              case measure => simp [intOf]; omega
            · go_wp2_with fail
              go_ret
              have hl0' : l = 0 := by omega
              subst hl0'
              rw [Nat.sub_zero, HJ.out] at hown7
              exact ⟨g, cap, by rw [← HJ.out]; rfl, hown7, hL7.below⟩
    · have hb : ((m : Int) / 10 == 0) = false := by rw [beq_eq_false_iff_ne]; omega
      have hkn : k + 1 < Lib.nDigits u := by
        have h1 : ¬ k + 1 = Lib.nDigits u := fun h => hm (by rw [HD.out]; exact HE.out.2 h)
        omega
      go_wp2_with fail
      go_roundw
      case rel => exact ⟨k + 1, hkn, by rw [← HD.out]; go_num, by go_num, hL2⟩
      case measure => simp [intOf]; omega

set_option maxHeartbeats 4000000 in
theorem model_pos (u : Nat) (hu : u ≤ 9223372036854775807) (w : World) :
    Calls Ybad.prog 8 #[.int .i64 (u : Int)] w fun e w' => ∃ g cap, e = .returned (.slice (some ⟨g, 0, none⟩) (0 + wide u) cap) ∧
      w'.ownsRow (w.heap.size + 1) 5 1 (.slice (some ⟨g, 0, none⟩) (0 + wide u) cap) (0 + wide u) (bytesV ([] ++ places u (wide u) (wide u))) ∧ Below w.heap.size w w' := by
  have hu64 : u < 18446744073709551616 := by omega
  have hnd := nd_le u hu64
  have hnp := Lib.nDigits_pos u
  have hd : decide ((u : Int) < 0) = false := by simp
  go_enter Ybad.func8, Ybad.ntmps8
  go_wp2_with fail
  go_loopw [4, 6] (fun m n wr => ∃ k : Nat, k < Lib.nDigits u ∧ m = .int .u64 ((u / 10 ^ k : Nat) : Int) ∧ n = .int .i64 k ∧ Laid w.heap.size u k w wr) (fun _ n _ => 24 - (intOf n).toNat)
  case atStart =>
    refine ⟨0, hnp, by simp, rfl, ⟨⟨_, heap_alloc_new w _, rfl, fun j hj => absurd hj (by omega)⟩, (Below.refl _ _).alloc (Nat.le_refl _) _⟩⟩
  case round =>
    obtain ⟨k, hk, rfl, rfl, hL⟩ := hrel
    obtain ⟨x, hc⟩ := hL.there k (by omega)
    have hf := hL.free k
    have hle : u / 10 ^ k ≤ u := Nat.div_le_self _ _
    have hk24 : (k : Int) < 24 := by omega
    have hL2 := hL.store (by omega) (48 + ((u / 10 ^ k : Nat) : Int) % 10) (by unfold dI; omega)
    have hend := nd_end u k hk
    have hds := div_step u k
    have HD : Hid (u / 10 ^ k / 10 = u / 10 ^ (k + 1)) := hds
    have HE : Hid ((u / 10 ^ (k + 1) = 0) ↔ k + 1 = Lib.nDigits u) := hend
    clear hds hend
    generalize u / 10 ^ k = m at *
    by_cases hm : m / 10 = 0
    · have hb : ((m : Int) / 10 == 0) = true := by rw [beq_iff_eq]; omega
      have hkn : k + 1 = Lib.nDigits u := HE.out.1 (by rw [← HD.out]; exact hm)
      have HKN : Hid (k + 1 = Lib.nDigits u) := hkn
      clear hkn
      go_wp2_with fail
      clear hc hf hL x
      have hm0 : (m : Int) / 10 = 0 := by omega
      go_loopw [6] (fun n wr2 => ∃ j : Nat, Lib.nDigits u ≤ j ∧ j ≤ wide u ∧ n = .int .i64 j ∧ Laid w.heap.size u j w wr2) (fun n _ => 24 - (intOf n).toNat)
      case atStart => exact ⟨k + 1, by rw [HKN.out]; exact Nat.le_refl _, by rw [HKN.out]; unfold wide; omega, by go_num, hL2⟩
      case round =>
        obtain ⟨j, hj1, hj2, rfl, hM⟩ := hrel
        have hwide : wide u ≤ 20 := by unfold wide; omega
        by_cases hj4 : j < 4
        · obtain ⟨x, hc⟩ := hM.there j (by omega)
          have hf := hM.free j
          have hM2 := hM.store (by omega) 48 (dI_pad u j hj1).symm
          have hjw : j + 1 ≤ wide u := by unfold wide; omega
          have hj24 : (j : Int) < 24 := by omega
          go_wp2_with fail
          go_roundw
          case rel => exact ⟨j + 1, by omega, hjw, by go_num, hM2⟩
          case measure => simp [intOf]; omega
        · have hjw : j = wide u := by unfold wide at *; omega
          have HJ : Hid (j = wide u) := hjw
          clear hjw hL2
          obtain ⟨i0, hi, hz0, hz1, hz2⟩ := info_parts info5
          have hsz := lt_of_block hM.row.choose_spec.1
          have hj4' : decide ((j : Int) < 4) = false := by simp; omega
          have hB6 : Below w.heap.size w wr := hM.below
          go_wp2_with (first
            | (at_make; go_must (refine wpList_make_own _ rfl _ _ 27 rfl (w.heap.size + 1) 5 i0 (.int .u8 0) 1 Ybad.underlying27 hi hz0 hz1 .i64 .i64 _ (j + 1) (by rfl) (by rfl) (by omega) (by rw [hz2]; omega) (by unfold maxLen; omega) (by omega) ?_); intro w5 hown5 hgrow5; have z5 := hgrow5.size))
          have hLS := hM.grew (Grew.ofNil hgrow5 (.inl rfl)) (v := .slice none 0 0) (v' := .slice none 0 0) (by simp [Value.ownBlock]) (by intro b hb; simp [Value.ownBlock] at hb) (by omega)
          have hownS : w5.ownsRow (w.heap.size + 1) 5 1 (.slice (some ⟨wr.heap.size, 0, none⟩) 0 (j + 1)) 0 (bytesV []) := by simpa [bytesV] using hown5
          clear hgrow5 hown5
          clear hM hB6 hi hz0 hz1 hz2
          go_loopw [7, 8] (fun v i wr => ∃ l g cap : Nat, l ≤ j ∧ i = .int .i64 ((l : Int) - 1) ∧ v = .slice (some ⟨g, 0, none⟩) (0 + (j - l)) cap ∧
              wr.ownsRow (w.heap.size + 1) 5 1 (.slice (some ⟨g, 0, none⟩) (0 + (j - l)) cap) (0 + (j - l)) (bytesV ([] ++ places u j (j - l))) ∧ Laid w.heap.size u j w wr) (fun _ i _ => (intOf i + 1).toNat)
          case atStart => exact ⟨j, wr.heap.size, (j + 1), Nat.le_refl _, rfl, by simp, by simpa [places] using hownS, hLS⟩
          case round =>
            obtain ⟨l, g, cap, hl, rfl, rfl, hown7, hL7⟩ := hrel
            have hz7 := hL7.below.size
            have hs7 := lt_of_block hL7.row.choose_spec.1
            by_cases hl0 : 0 < l
            · have hcl := hL7.cell (l - 1) (by omega)
              have hl24 : (l : Int) - 1 < 24 := by omega
              have hl1 : (0 : Int) ≤ (l : Int) - 1 := by omega
              have hto : ((l : Int) - 1).toNat = l - 1 := by omega
              go_wp2_with (at_builtin; go_must (refine wpList_app wr rfl _ _ 27 rfl 5 Ybad.underlying27 info5 (w.heap.size + 1) g cap (0 + (j - l)) _ (by rfl) hown7 wr.heap.size rfl 1 _ (by rfl) (by rfl) (by simp [Value.oneCell']) (by omega) (by omega) (by omega) ?_); intro g8 cap8 w8 hown8 hgrow8)
              have R := places_round hl hl0 hown8
              have hL8 := hL7.grew hgrow8 (by have := (hown7.lt g rfl).1; simp [Value.ownBlock]; omega) (by intro b hb; have := (hown7.lt b hb).1; omega) (by omega)
              clear hown8 hgrow8 hown7 hL7
              go_wp2_with fail
              go_roundw
              case rel => exact ⟨l - 1, g8, cap8, by omega, by go_num, by first | (rw [show 0 + (j - (l - 1)) = 0 + (j - l) + 1 by omega]; done) | (rw [show 0 + (j - (l - 1)) = j - l + 1 by omega]; done), R, hL8⟩
              case measure => simp [intOf]; omega
            · go_wp2_with fail
              go_ret
              have hl0' : l = 0 := by omega
              subst hl0'
              rw [Nat.sub_zero, HJ.out] at hown7
              exact ⟨g, cap, by rw [← HJ.out]; rfl, hown7, hL7.below⟩
    · have hb : ((m : Int) / 10 == 0) = false := by rw [beq_eq_false_iff_ne]; omega
      have hkn : k + 1 < Lib.nDigits u := by
        have h1 : ¬ k + 1 = Lib.nDigits u := fun h => hm (by rw [HD.out]; exact HE.out.2 h)
        omega
      go_wp2_with fail
      go_roundw
      case rel => exact ⟨k + 1, hkn, by rw [← HD.out]; go_num, by go_num, hL2⟩
      case measure => simp [intOf]; omega

end Go.Proofs.YbulkdjbkDoor
