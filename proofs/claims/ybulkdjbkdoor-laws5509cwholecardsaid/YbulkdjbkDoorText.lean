/-
  THE PLAIN LAW UNDER LawS5509CWhole: the year's text by places (least first, padded to four) is the zeros ahead and the decimal numeral. No Go run in this text.
-/
import Derived.Test.YbulkdjbkDoorYear
namespace Go.Proofs.YbulkdjbkDoor

/-- The digit at place j of u, as its byte. -/
def dI (u j : Nat) : Int := 48 + ((u / 10 ^ j % 10 : Nat) : Int)
/-- The first j bytes of u's text of N places, the greatest place first. -/
def places (u N j : Nat) : List Int := (List.range j).map fun t => dI u (N - 1 - t)
/-- How many places the text has. -/
def wide (u : Nat) : Nat := max (Lib.nDigits u) 4

theorem dI_bd (u j : Nat) : 48 ≤ dI u j ∧ dI u j ≤ 57 := by unfold dI; omega

theorem nd_low (u : Nat) : Lib.nDigits u = 1 ∨ 10 ^ (Lib.nDigits u - 1) ≤ u := by
  induction u using Nat.strongRecOn with
  | _ u ih =>
    by_cases h : u < 10
    · exact .inl (Lib.nDigits_small h)
    · right
      rw [Lib.nDigits_big h, Nat.add_sub_cancel]
      have hp := Lib.nDigits_pos (u / 10)
      rcases ih (u / 10) (by omega) with h1 | h1
      · rw [h1]; omega
      · rw [show Lib.nDigits (u / 10) = (Lib.nDigits (u / 10) - 1) + 1 by omega, Nat.pow_succ]
        omega

/-- The loop over the places ends just behind the last digit. -/
theorem nd_end (u k : Nat) (hk : k < Lib.nDigits u) : (u / 10 ^ (k + 1) = 0) ↔ k + 1 = Lib.nDigits u := by
  constructor
  · intro h
    have hlt : u < 10 ^ (k + 1) := by
      rcases Nat.lt_or_ge u (10 ^ (k + 1)) with h1 | h1
      · exact h1
      · have := Nat.div_pos h1 (Nat.pow_pos (by decide)); omega
    rcases nd_low u with h1 | h1
    · omega
    · rcases Nat.lt_or_ge (k + 1) (Lib.nDigits u) with h2 | h2
      · have : 10 ^ (k + 1) ≤ 10 ^ (Lib.nDigits u - 1) := Nat.pow_le_pow_right (by decide) (by omega)
        omega
      · omega
  · intro h
    rw [h]
    exact Nat.div_eq_of_lt (Lib.lt_pow_nDigits u)

theorem nd_le (u : Nat) (hu : u < 18446744073709551616) : Lib.nDigits u ≤ 20 := by
  rcases nd_low u with h | h
  · omega
  · rcases Nat.lt_or_ge 20 (Lib.nDigits u) with h1 | h1
    · have : 10 ^ 20 ≤ 10 ^ (Lib.nDigits u - 1) := Nat.pow_le_pow_right (by decide) (by omega)
      omega
    · exact h1

theorem dI_pad (u j : Nat) (hj : Lib.nDigits u ≤ j) : dI u j = 48 := by
  have h := Lib.lt_pow_nDigits u
  have h2 : 10 ^ Lib.nDigits u ≤ 10 ^ j := Nat.pow_le_pow_right (by decide) hj
  unfold dI
  rw [Nat.div_eq_of_lt (by omega)]
  rfl

theorem places_succ (u N j : Nat) : places u N (j + 1) = places u N j ++ [dI u (N - 1 - j)] := by
  simp [places, List.range_succ]
theorem length_places (u N j : Nat) : (places u N j).length = j := by simp [places]

theorem zeros_nd (u : Nat) : zeros u = 4 - Lib.nDigits u := by
  have h1 := Lib.nDigits_pos u
  have hu := Lib.lt_pow_nDigits u
  have hl := nd_low u
  unfold zeros
  split
  · rename_i h; rw [Lib.nDigits_small h]
  · split
    · rename_i h0 h; rw [Lib.nDigits_unique 1 u (by omega) (by omega)]
    · split
      · rename_i _ h0 h; rw [Lib.nDigits_unique 2 u (by omega) (by omega)]
      · rename_i _ _ h
        rcases Nat.lt_or_ge (Lib.nDigits u) 4 with h2 | h2
        · have : 10 ^ Lib.nDigits u ≤ 10 ^ 3 := Nat.pow_le_pow_right (by decide) (by omega)
          omega
        · omega

theorem digit_cell (u k : Nat) : Value.int .u8 (((UInt8.ofNat (48 + u / 10 ^ k % 10)).toNat : Nat) : Int) = .int .u8 (dI u k) := by
  have h : (UInt8.ofNat (48 + u / 10 ^ k % 10)).toNat = 48 + u / 10 ^ k % 10 := by
    rw [UInt8.toNat_ofNat']
    exact Nat.mod_eq_of_lt (by omega)
  rw [h]
  unfold dI
  simp

/-- The zeros ahead and the numeral are the text by places. -/
theorem text_eq (u : Nat) : List.replicate (zeros u) (Value.int .u8 48) ++ Lib.byteCells (Lib.decDigits u) = bytesV (places u (wide u) (wide u)) := by
  have hz := zeros_nd u
  have hp := Lib.nDigits_pos u
  have hw : wide u = zeros u + Lib.nDigits u := by unfold wide; omega
  have e1 : Lib.byteCells (Lib.decDigits u) = (List.range (Lib.nDigits u)).map fun t => Value.int .u8 (dI u (Lib.nDigits u - 1 - t)) := by
    rw [Lib.decDigits_eq]
    simp only [Lib.byteCells, List.map_map]
    refine List.map_congr_left fun t _ => ?_
    exact digit_cell u _
  rw [e1]
  apply List.ext_getElem?
  intro i
  simp only [bytesV, places, List.map_map]
  by_cases h1 : i < zeros u
  · rw [List.getElem?_append_left (by simpa using h1)]
    have h3 : i < wide u := by omega
    simp only [List.getElem?_replicate, h1, if_true, List.getElem?_map, List.getElem?_range h3, Option.map_some, Function.comp]
    rw [dI_pad u (wide u - 1 - i) (by omega)]
  · rw [List.getElem?_append_right (by simpa using h1)]
    simp only [List.length_replicate, List.getElem?_map]
    by_cases h2 : i < wide u
    · rw [List.getElem?_range h2, List.getElem?_range (by omega)]
      simp only [Option.map_some, Function.comp]
      rw [show Lib.nDigits u - 1 - (i - zeros u) = wide u - 1 - i by omega]
    · rw [List.getElem?_eq_none (by simp; omega), List.getElem?_eq_none (by simp; omega)]
      rfl

end Go.Proofs.YbulkdjbkDoor
