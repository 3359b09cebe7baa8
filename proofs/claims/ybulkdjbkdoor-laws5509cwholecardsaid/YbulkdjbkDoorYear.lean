/-
  appendYear, walked over this dump: the sign, the zeros ahead, the digits.
-/
import Derived.Test.YbulkdjbkDoorUint2
import Derived.WalkSmall
namespace Go.Proofs.YbulkdjbkDoor
open Go.RowKit

theorem uintPub_any (B n u g0 cap0 : Nat) (hu64 : u < 18446744073709551616) (xs : List Value) (w : World) (hown : w.ownsRow B 5 1 (.slice (some ⟨g0, 0, none⟩) n cap0) n xs) (hB : B ≤ w.heap.size) (hn : n ≤ 1000000000)
    (htab : Lib.TabIs Ybad.prog w powName .u64 Lib.pow10Tab) :
    Calls Ybad.prog 12 #[.slice (some ⟨g0, 0, none⟩) n cap0, .int .u64 u, .int .i64 10] w fun e w' => ∃ g cap, e = .returned (.slice (some ⟨g, 0, none⟩) (n + (Lib.decDigits u).length) cap) ∧
      w'.ownsRow B 5 1 (.slice (some ⟨g, 0, none⟩) (n + (Lib.decDigits u).length) cap) (n + (Lib.decDigits u).length) (xs ++ Lib.byteCells (Lib.decDigits u)) ∧ Grew w w' (.slice (some ⟨g0, 0, none⟩) n cap0) (.slice (some ⟨g, 0, none⟩) (n + (Lib.decDigits u).length) cap) := by
  go_enter Ybad.func12, Ybad.ntmps12
  go_wp2_with fail
  refine (uint_any B n u g0 cap0 hu64 xs _ hown hB hn htab).mono ?_
  rintro e w' ⟨g, cap, rfl, h1, h2⟩
  go_wp2_with fail
  go_ret
  exact ⟨g, cap, rfl, h1, h2⟩

/-- How many zeros are written ahead of u's digits. -/
def zeros (u : Nat) : Nat := if u < 10 then 3 else if u < 100 then 2 else if u < 1000 then 1 else 0
def pw : Nat → Int
  | 0 => 1000
  | 1 => 100
  | 2 => 10
  | _ => 1

theorem zeros_go (u k : Nat) (hk : k < 3) (h : (u : Int) < pw k) : k < zeros u := by
  unfold zeros
  rcases (show k = 0 ∨ k = 1 ∨ k = 2 by omega) with rfl | rfl | rfl <;> simp [pw] at h <;> (repeat' split) <;> omega
theorem zeros_stop (u k : Nat) (hz : k ≤ zeros u) (h : k = 3 ∨ ¬ (u : Int) < pw k) : k = zeros u := by
  unfold zeros at *
  rcases h with rfl | h
  · (repeat' split at hz) <;> (repeat' split) <;> omega
  · by_cases h3 : k < 3
    · rcases (show k = 0 ∨ k = 1 ∨ k = 2 by omega) with rfl | rfl | rfl <;> simp [pw] at h <;> (repeat' split at hz) <;> (repeat' split) <;> omega
    · (repeat' split at hz) <;> (repeat' split) <;> omega
theorem zeros_le (u : Nat) : zeros u ≤ 3 := by
  unfold zeros
  (repeat' split) <;> omega

theorem owns_zero {w : World} {B e n k : Nat} {v : Value} {xs : List Value} (h : w.ownsRow B e 1 v (n + k + 1) (xs ++ List.replicate k (.int .u8 48) ++ [.int .u8 48])) :
    w.ownsRow B e 1 v (n + (k + 1)) (xs ++ List.replicate (k + 1) (.int .u8 48)) := by
  rw [List.replicate_succ', ← List.append_assoc]
  exact h

set_option maxHeartbeats 4000000 in
theorem year_neg (B n g0 cap0 u : Nat) (hu0 : 0 < u) (hu : u ≤ 9223372036854775808) (xs : List Value) (w : World) (hown : w.ownsRow B 5 1 (.slice (some ⟨g0, 0, none⟩) n cap0) n xs) (hB : B ≤ w.heap.size) (hn : n ≤ 10000000)
    (hkeep : ∀ W, Below B w W → Lib.TabIs Ybad.prog W powName .u64 Lib.pow10Tab) :
    Calls Ybad.prog 7 #[.slice (some ⟨g0, 0, none⟩) n cap0, .int .i64 (-(u : Int))] w fun e w' => ∃ g cap, e = .returned (.slice (some ⟨g, 0, none⟩) ((n + 1) + zeros u + (Lib.decDigits u).length) cap) ∧
      w'.ownsRow B 5 1 (.slice (some ⟨g, 0, none⟩) ((n + 1) + zeros u + (Lib.decDigits u).length) cap) ((n + 1) + zeros u + (Lib.decDigits u).length) ((xs ++ [.int .u8 45]) ++ List.replicate (zeros u) (.int .u8 48) ++ Lib.byteCells (Lib.decDigits u)) ∧
      Grew w w' (.slice (some ⟨g0, 0, none⟩) n cap0) (.slice (some ⟨g, 0, none⟩) ((n + 1) + zeros u + (Lib.decDigits u).length) cap) := by
  have HK := Lib.hid hkeep
  clear hkeep
  have hd : decide (-(u : Int) < 0) = true := by simp; omega
  have HW : Hid (IntKind.u64.wrap (-IntKind.u64.wrap (-(u : Int))) = (u : Int)) := by
    show _ = _
    rw [IntKind.wrap_u64, IntKind.wrap_u64]; omega
  go_enter Ybad.func7, Ybad.ntmps7
  go_wp2_with (at_builtin; go_must (refine wpList_app w rfl _ _ 27 rfl 5 Ybad.underlying27 info5 B g0 cap0 n _ (by rfl) hown w.heap.size rfl 1 _ (by rfl) (by rfl) (by simp [Value.oneCell']) (by omega) (by omega) (by omega) ?_); intro g1 cap1 w1 hown1 hgrow1)
  simp only [HW.out]
  go_loopw [0, 6] (fun v p wr => ∃ k g cap : Nat, k ≤ zeros u ∧ p = .int .u64 (pw k) ∧ v = .slice (some ⟨g, 0, none⟩) ((n + 1) + k) cap ∧
      wr.ownsRow B 5 1 (.slice (some ⟨g, 0, none⟩) ((n + 1) + k) cap) ((n + 1) + k) ((xs ++ [.int .u8 45]) ++ List.replicate k (.int .u8 48)) ∧ Grew w wr (.slice (some ⟨g0, 0, none⟩) n cap0) (.slice (some ⟨g, 0, none⟩) ((n + 1) + k) cap)) (fun _ p _ => (intOf p).toNat)
  case atStart => exact ⟨0, g1, cap1, Nat.zero_le _, rfl, rfl, by simpa using hown1, hgrow1⟩
  case round =>
    obtain ⟨k, g, cap, hk, rfl, rfl, hown2, hgrow2⟩ := hrel
    have hz3 := zeros_le u
    have hs2 := hgrow2.size
    have hbel2 := hgrow2.below hB hown
    have hu64 : u < 18446744073709551616 := by omega
    by_cases hgo : k < 3 ∧ (u : Int) < pw k
    · obtain ⟨h3, hlt⟩ := hgo
      have hz := zeros_go u k h3 hlt
      rcases (show k = 0 ∨ k = 1 ∨ k = 2 by omega) with rfl | rfl | rfl
      all_goals
        simp only [pw] at hlt ⊢
        go_wp2_with (at_builtin; go_must (refine wpList_app wr rfl _ _ 27 rfl 5 Ybad.underlying27 info5 B g cap _ _ (by rfl) hown2 wr.heap.size rfl 1 _ (by rfl) (by rfl) (by simp [Value.oneCell']) (by omega) (by omega) (by omega) ?_); intro g3 cap3 w3 hown3 hgrow3)
        have R := owns_zero hown3
        have G := hgrow2.trans hgrow3
        clear hown3 hgrow3 hown2 hgrow2
        go_wp2_with fail
        go_roundw
        case rel => exact ⟨_, g3, cap3, hz, rfl, rfl, R, G⟩
        case measure => simp [intOf]
    · have hkz : k = zeros u := zeros_stop u k hk (by omega)
      have htab2 := HK.out wr hbel2
      have hk3 : k ≤ 3 := by omega
      have HKZ := Lib.hid hkz
      clear hkz
      rcases (show k = 0 ∨ k = 1 ∨ k = 2 ∨ k = 3 by omega) with rfl | rfl | rfl | rfl
      all_goals
        simp only [pw] at hgo ⊢
        try (have hnl : decide ((u : Int) < pw 0) = false := by simp [pw]; omega)
        try (have hnl1 : decide ((u : Int) < pw 1) = false := by simp [pw]; omega)
        try (have hnl2 : decide ((u : Int) < pw 2) = false := by simp [pw]; omega)
        try simp only [pw] at *
        go_wp2_with fail
        refine (uintPub_any B _ u g cap hu64 _ _ hown2 (by omega) (by omega) htab2).mono ?_
        rintro e w4 ⟨g4, cap4, rfl, hown4, hgrow4⟩
        go_wp2_with fail
        go_ret
        rw [← HKZ.out]
        exact ⟨g4, cap4, rfl, hown4, hgrow2.trans hgrow4⟩

set_option maxHeartbeats 4000000 in
theorem year_pos (B n g0 cap0 u : Nat) (hu : u ≤ 9223372036854775807) (xs : List Value) (w : World) (hown : w.ownsRow B 5 1 (.slice (some ⟨g0, 0, none⟩) n cap0) n xs) (hB : B ≤ w.heap.size) (hn : n ≤ 10000000)
    (hkeep : ∀ W, Below B w W → Lib.TabIs Ybad.prog W powName .u64 Lib.pow10Tab) :
    Calls Ybad.prog 7 #[.slice (some ⟨g0, 0, none⟩) n cap0, .int .i64 (u : Int)] w fun e w' => ∃ g cap, e = .returned (.slice (some ⟨g, 0, none⟩) (n + zeros u + (Lib.decDigits u).length) cap) ∧
      w'.ownsRow B 5 1 (.slice (some ⟨g, 0, none⟩) (n + zeros u + (Lib.decDigits u).length) cap) (n + zeros u + (Lib.decDigits u).length) (xs ++ List.replicate (zeros u) (.int .u8 48) ++ Lib.byteCells (Lib.decDigits u)) ∧
      Grew w w' (.slice (some ⟨g0, 0, none⟩) n cap0) (.slice (some ⟨g, 0, none⟩) (n + zeros u + (Lib.decDigits u).length) cap) := by
  have HK := Lib.hid hkeep
  clear hkeep
  have hd : decide ((u : Int) < 0) = false := by simp
  have hown1 := hown
  have hgrow1 := Grew.refl w (.slice (some ⟨g0, 0, none⟩) n cap0)
  go_enter Ybad.func7, Ybad.ntmps7
  go_wp2_with fail
  go_loopw [0, 6] (fun v p wr => ∃ k g cap : Nat, k ≤ zeros u ∧ p = .int .u64 (pw k) ∧ v = .slice (some ⟨g, 0, none⟩) (n + k) cap ∧
      wr.ownsRow B 5 1 (.slice (some ⟨g, 0, none⟩) (n + k) cap) (n + k) (xs ++ List.replicate k (.int .u8 48)) ∧ Grew w wr (.slice (some ⟨g0, 0, none⟩) n cap0) (.slice (some ⟨g, 0, none⟩) (n + k) cap)) (fun _ p _ => (intOf p).toNat)
  case atStart => exact ⟨0, g0, cap0, Nat.zero_le _, rfl, rfl, by simpa using hown1, hgrow1⟩
  case round =>
    obtain ⟨k, g, cap, hk, rfl, rfl, hown2, hgrow2⟩ := hrel
    have hz3 := zeros_le u
    have hs2 := hgrow2.size
    have hbel2 := hgrow2.below hB hown
    have hu64 : u < 18446744073709551616 := by omega
    by_cases hgo : k < 3 ∧ (u : Int) < pw k
    · obtain ⟨h3, hlt⟩ := hgo
      have hz := zeros_go u k h3 hlt
      rcases (show k = 0 ∨ k = 1 ∨ k = 2 by omega) with rfl | rfl | rfl
      all_goals
        simp only [pw] at hlt ⊢
        go_wp2_with (at_builtin; go_must (refine wpList_app wr rfl _ _ 27 rfl 5 Ybad.underlying27 info5 B g cap _ _ (by rfl) hown2 wr.heap.size rfl 1 _ (by rfl) (by rfl) (by simp [Value.oneCell']) (by omega) (by omega) (by omega) ?_); intro g3 cap3 w3 hown3 hgrow3)
        have R := owns_zero hown3
        have G := hgrow2.trans hgrow3
        clear hown3 hgrow3 hown2 hgrow2
        go_wp2_with fail
        go_roundw
        case rel => exact ⟨_, g3, cap3, hz, rfl, rfl, R, G⟩
        case measure => simp [intOf]
    · have hkz : k = zeros u := zeros_stop u k hk (by omega)
      have htab2 := HK.out wr hbel2
      have hk3 : k ≤ 3 := by omega
      have HKZ := Lib.hid hkz
      clear hkz
      rcases (show k = 0 ∨ k = 1 ∨ k = 2 ∨ k = 3 by omega) with rfl | rfl | rfl | rfl
      all_goals
        simp only [pw] at hgo ⊢
        try (have hnl : decide ((u : Int) < pw 0) = false := by simp [pw]; omega)
        try (have hnl1 : decide ((u : Int) < pw 1) = false := by simp [pw]; omega)
        try (have hnl2 : decide ((u : Int) < pw 2) = false := by simp [pw]; omega)
        try simp only [pw] at *
        go_wp2_with fail
        refine (uintPub_any B _ u g cap hu64 _ _ hown2 (by omega) (by omega) htab2).mono ?_
        rintro e w4 ⟨g4, cap4, rfl, hown4, hgrow4⟩
        go_wp2_with fail
        go_ret
        rw [← HKZ.out]
        exact ⟨g4, cap4, rfl, hown4, hgrow2.trans hgrow4⟩

end Go.Proofs.YbulkdjbkDoor
