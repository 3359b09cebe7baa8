/-
  THE WALKS under LawS5509AWhole: isLeap, the law's own leap rule, monthDays (off the listed table), the model, the law.
-/
import Derived.Test.YbulkdjbkDoorRows
import Derived.WalkKit
import Derived.WalkSpells
import Derived.OpenShut
namespace Go.Proofs.YbulkdjbkDoor
open Go.RowKit

/-- The leap rule: the Julian one at kind 1, the Gregorian one else. -/
def leapB (k y : Int) : Bool := if k == 1 then y.tmod 4 == 0 else (y.tmod 4 == 0 && (y.tmod 100 != 0 || y.tmod 400 == 0))

theorem ret_bool {a b : Bool} (h : a = b) : Ending.returned (.bool a) = .returned (.bool b) := by rw [h]

theorem four_of_fourhundred (y : Int) (h : y.tmod 400 = 0) : y.tmod 4 = 0 := by
  have h1 := Int.dvd_of_tmod_eq_zero h
  exact Int.tmod_eq_zero_of_dvd (Int.dvd_trans (by decide) h1)

theorem leap_jul (k y : Int) (h : (k == 1) = true) : leapB k y = (y.tmod 4 == 0) := by unfold leapB; rw [if_pos h]
theorem leap_greg (k y : Int) (h : (k == 1) = false) : leapB k y = (y.tmod 4 == 0 && (y.tmod 100 != 0 || y.tmod 400 == 0)) := by unfold leapB; rw [if_neg (by simp [h])]

set_option maxHeartbeats 1000000 in
theorem isLeap_any (k y : Int) (w : World) :
    Calls Ybad.prog 10 #[.int .i64 k, .int .i64 y] w fun e w' => e = .returned (.bool (leapB k y)) ∧ w' = w := by
  by_cases hk : (k == 1) = true
  · rw [leap_jul k y hk]
    go_enter Ybad.func10, Ybad.ntmps10
    go_wp2
    go_ret
    exact ⟨rfl, rfl⟩
  · have hk' : (k == 1) = false := by simpa using hk
    rw [leap_greg k y hk']
    clear hk
    go_enter Ybad.func10, Ybad.ntmps10
    go_wp2
    all_goals go_ret
    all_goals exact ⟨ret_bool (by simp [*]), rfl⟩

set_option maxHeartbeats 1000000 in
theorem leap_any (k y : Int) (w : World) :
    Calls Ybad.prog 11 #[.int .i64 k, .int .i64 y] w fun e w' => e = .returned (.bool (leapB k y)) ∧ w' = w := by
  by_cases hk : (k == 1) = true
  · rw [leap_jul k y hk]
    go_enter Ybad.func11, Ybad.ntmps11
    go_wp2
    go_ret
    exact ⟨rfl, rfl⟩
  · have hk' : (k == 1) = false := by simpa using hk
    rw [leap_greg k y hk']
    clear hk
    by_cases h4 : y.tmod 400 = 0
    · have h2 := four_of_fourhundred y h4
      have e : (y.tmod 4 == 0 && (y.tmod 100 != 0 || y.tmod 400 == 0)) = true := by simp [h2, h4]
      rw [e]
      clear e h2
      have h4' : (y.tmod 400 == 0) = true := by simp [h4]
      clear h4
      go_enter Ybad.func11, Ybad.ntmps11
      go_wp2
      go_ret
      exact ⟨rfl, rfl⟩
    · have h4' : (y.tmod 400 == 0) = false := by simp [h4]
      clear h4
      by_cases h1 : y.tmod 100 = 0
      · have h1' : (y.tmod 100 == 0) = true := by simp [h1]
        have e : (y.tmod 4 == 0 && (y.tmod 100 != 0 || y.tmod 400 == 0)) = false := by simp only [h4', h1]; simp
        rw [e]
        clear h1 e
        go_enter Ybad.func11, Ybad.ntmps11
        go_wp2
        go_ret
        exact ⟨rfl, rfl⟩
      · have h1' : (y.tmod 100 == 0) = false := by simp [h1]
        have e : (y.tmod 4 == 0 && (y.tmod 100 != 0 || y.tmod 400 == 0)) = (y.tmod 4 == 0) := by simp [h1]
        rw [e]
        clear h1 e
        go_enter Ybad.func11, Ybad.ntmps11
        go_wp2
        go_ret
        exact ⟨rfl, rfl⟩

/-- The days of a month, as both functions give them. -/
def daysOf (k y : Int) (m : Nat) : Int := if m = 2 then (if leapB k y then 29 else 28) else [0, 31, 28, 31, 30, 31, 30, 31, 31, 30, 31, 30, 31].getD m 0

set_option maxHeartbeats 4000000 in
theorem monthDays_any (k y : Int) (m : Nat) (hm : m < 13) (w : World) (hc : ∀ i, i < 13 → w.cell? ⟨0, i, none⟩ = some (.int .u8 ([0, 31, 28, 31, 30, 31, 30, 31, 31, 30, 31, 30, 31].getD i 0))) :
    Calls Ybad.prog 5 #[.int .i64 k, .int .i64 y, .int .i64 m] w fun e w' => e = .returned (.int .i64 (daysOf k y m)) ∧ w' = w := by
  have hcm := hc m hm
  clear hc
  rcases (show m = 0 ∨ m = 1 ∨ m = 2 ∨ m = 3 ∨ m = 4 ∨ m = 5 ∨ m = 6 ∨ m = 7 ∨ m = 8 ∨ m = 9 ∨ m = 10 ∨ m = 11 ∨ m = 12 by omega) with rfl | rfl | rfl | rfl | rfl | rfl | rfl | rfl | rfl | rfl | rfl | rfl | rfl
  case inr.inr.inl =>
    cases hl : leapB k y
    · go_enter Ybad.func5, Ybad.ntmps5
      go_wp2_with (go_at_call 10; refine (isLeap_any k y _).mono ?_; rw [hl]; rintro e w' ⟨rfl, rfl⟩)
      go_ret
      exact ⟨by simp [daysOf, hl], rfl⟩
    · go_enter Ybad.func5, Ybad.ntmps5
      go_wp2_with (go_at_call 10; refine (isLeap_any k y _).mono ?_; rw [hl]; rintro e w' ⟨rfl, rfl⟩)
      go_ret
      exact ⟨by simp [daysOf, hl], rfl⟩
  all_goals
    go_enter Ybad.func5, Ybad.ntmps5
    go_wp2_with fail
    go_ret
    exact ⟨rfl, rfl⟩

set_option maxHeartbeats 4000000 in
theorem model_any (k y : Int) (m : Nat) (hm : m < 13) (w : World) :
    Calls Ybad.prog 6 #[.int .i64 k, .int .i64 y, .int .i64 m] w fun e w' => e = .returned (.int .i64 (daysOf k y m)) ∧ w' = w := by
  rcases (show m = 0 ∨ m = 1 ∨ m = 2 ∨ m = 3 ∨ m = 4 ∨ m = 5 ∨ m = 6 ∨ m = 7 ∨ m = 8 ∨ m = 9 ∨ m = 10 ∨ m = 11 ∨ m = 12 by omega) with rfl | rfl | rfl | rfl | rfl | rfl | rfl | rfl | rfl | rfl | rfl | rfl | rfl
  case inr.inr.inl =>
    cases hl : leapB k y
    · go_enter Ybad.func6, Ybad.ntmps6
      go_wp2_with (go_at_call 11; refine (leap_any k y _).mono ?_; rw [hl]; rintro e w' ⟨rfl, rfl⟩)
      go_ret
      exact ⟨by simp [daysOf, hl], rfl⟩
    · go_enter Ybad.func6, Ybad.ntmps6
      go_wp2_with (go_at_call 11; refine (leap_any k y _).mono ?_; rw [hl]; rintro e w' ⟨rfl, rfl⟩)
      go_ret
      exact ⟨by simp [daysOf, hl], rfl⟩
  all_goals
    go_enter Ybad.func6, Ybad.ntmps6
    go_wp2_with fail
    go_ret
    exact ⟨rfl, rfl⟩

theorem monthDays_int (k y m : Int) (h0 : 0 ≤ m) (hm : m < 13) (w : World) (hc : ∀ i, i < 13 → w.cell? ⟨0, i, none⟩ = some (.int .u8 ([0, 31, 28, 31, 30, 31, 30, 31, 31, 30, 31, 30, 31].getD i 0))) :
    Calls Ybad.prog 5 #[.int .i64 k, .int .i64 y, .int .i64 m] w fun e w' => e = .returned (.int .i64 (daysOf k y m.toNat)) ∧ w' = w := by
  obtain ⟨m, rfl⟩ := Int.eq_ofNat_of_zero_le h0
  exact monthDays_any k y m (by omega) w hc

theorem model_int (k y m : Int) (h0 : 0 ≤ m) (hm : m < 13) (w : World) :
    Calls Ybad.prog 6 #[.int .i64 k, .int .i64 y, .int .i64 m] w fun e w' => e = .returned (.int .i64 (daysOf k y m.toNat)) ∧ w' = w := by
  obtain ⟨m, rfl⟩ := Int.eq_ofNat_of_zero_le h0
  exact model_any k y m (by omega) w

set_option maxHeartbeats 1000000 in
theorem lawA_any (k y b : Int) (hb0 : 0 ≤ b) (hb : b < 256) (w : World) (hc : ∀ i, i < 13 → w.cell? ⟨0, i, none⟩ = some (.int .u8 ([0, 31, 28, 31, 30, 31, 30, 31, 31, 30, 31, 30, 31].getD i 0))) :
    Calls Ybad.prog 3 #[.int .i64 k, .int .i64 y, .int .u8 b] w fun e w' => e = .returned (.bool true) ∧ w' = w := by
  have C := hc
  clear hc
  have HC : Hid (∀ i, i < 13 → w.cell? ⟨0, i, none⟩ = some (.int .u8 ([0, 31, 28, 31, 30, 31, 30, 31, 31, 30, 31, 30, 31].getD i 0))) := C
  clear C
  go_enter Ybad.func3, Ybad.ntmps3
  go_wp2_with fail
  refine (monthDays_int k y _ (by omega) (by omega) _ HC.out).mono ?_
  rintro e w' ⟨rfl, rfl⟩
  go_wp2_with fail
  refine (model_int k y _ (by omega) (by omega) _).mono ?_
  rintro e w' ⟨rfl, rfl⟩
  go_wp2_with fail
  go_ret
  exact ⟨rfl, rfl⟩
end Go.Proofs.YbulkdjbkDoor
