/-
  byteEncode at 12 bits, walked over this dump: it appends the 384 low bytes of the number whose 12-bit digits are the coefficients.
-/
import Derived.Test.YbulkdizgCoef
namespace Go.Proofs.Ybulkdizg
open Go.RowKit

/-- The first k bytes of N, the least significant first. -/
def leB (N k : Nat) : List Int := (List.range k).map (fun t => ((N / 2 ^ (8 * t) % 256 : Nat) : Int))
theorem length_leB (N k : Nat) : (leB N k).length = k := by simp [leB]
theorem leB_succ (N k : Nat) : leB N (k + 1) = leB N k ++ [((N / 2 ^ (8 * k) % 256 : Nat) : Int)] := by simp [leB, List.range_succ]

theorem acc_add (N i e b : Nat) (hb : 12 * i = 32 * e + b) : N % 2 ^ (12 * i) / 2 ^ (32 * e) + N / 2 ^ (12 * i) % 4096 * 2 ^ b = N % 2 ^ (12 * (i + 1)) / 2 ^ (32 * e) := by
  have h1 : 2 ^ (12 * (i + 1)) = 2 ^ (12 * i) * 4096 := by rw [Nat.mul_add, Nat.pow_add]
  have h2 : 2 ^ (12 * i) = 2 ^ (32 * e) * 2 ^ b := by rw [hb, Nat.pow_add]
  rw [h1, Nat.mod_mul]
  generalize N / 2 ^ (12 * i) % 4096 = c
  rw [h2, Nat.mul_assoc, Nat.add_mul_div_left _ _ (Nat.two_pow_pos _), Nat.mul_comm (2 ^ b)]
theorem acc_lt (N i e b : Nat) (hb : 12 * i = 32 * e + b) : N % 2 ^ (12 * i) / 2 ^ (32 * e) < 2 ^ b := by
  rw [Nat.div_lt_iff_lt_mul (Nat.two_pow_pos _), ← Nat.pow_add, Nat.add_comm b, ← hb]
  exact Nat.mod_lt _ (Nat.two_pow_pos _)
theorem acc_or (a c b : Nat) (ha : a < 2 ^ b) : a ||| c * 2 ^ b = a + c * 2 ^ b := by
  rw [Nat.or_comm, Nat.mul_comm, ← Nat.two_pow_add_eq_or_of_lt ha, Nat.add_comm]
theorem acc_byte (N a b t : Nat) (h : b + t + 8 ≤ a) : N % 2 ^ a / 2 ^ b / 2 ^ t % 256 = N / 2 ^ (b + t) % 256 := by
  rw [Nat.div_div_eq_div_mul, ← Nat.pow_add]
  apply Nat.eq_of_testBit_eq
  intro k
  rw [show 256 = 2 ^ 8 from rfl]
  simp only [Nat.testBit_mod_two_pow, Nat.testBit_div_two_pow]
  by_cases hk : k < 8
  · have : k + (b + t) < a := by omega
    simp [hk, this]
  · simp [hk]
theorem acc_bytes (N a e : Nat) (h : 32 * e + 32 ≤ a) (x : Nat) (hx : x = N % 2 ^ a / 2 ^ (32 * e) % 4294967296) :
    leB N (4 * e + 4) = leB N (4 * e) ++ [(x : Int) % 256, (x : Int) / 256 % 256, (x : Int) / 65536 % 256, (x : Int) / 16777216] := by
  have b0 := acc_byte N a (32 * e) 0 (by omega)
  have b1 := acc_byte N a (32 * e) 8 (by omega)
  have b2 := acc_byte N a (32 * e) 16 (by omega)
  have b3 := acc_byte N a (32 * e) 24 (by omega)
  rw [leB_succ, leB_succ, leB_succ, leB_succ, show 8 * (4 * e) = 32 * e by omega, show 8 * (4 * e + 1) = 32 * e + 8 by omega, show 8 * (4 * e + 2) = 32 * e + 16 by omega, show 8 * (4 * e + 3) = 32 * e + 24 by omega]
  rw [Nat.add_zero] at b0
  rw [← b0, ← b1, ← b2, ← b3]
  generalize N % 2 ^ a / 2 ^ (32 * e) = y at *
  simp only [List.append_assoc, List.cons_append, List.nil_append]
  subst hx
  congr 1
  simp only [List.cons.injEq, and_true]
  refine ⟨?_, ?_, ?_, ?_⟩ <;> simp <;> omega

theorem acc_lt' (A C b : Nat) (ha : A < 2 ^ b) (hc : C < 4096) : A + C * 2 ^ b < 4096 * 2 ^ b := by
  have : (C + 1) * 2 ^ b ≤ 4096 * 2 ^ b := Nat.mul_le_mul_right _ (by omega)
  rw [Nat.add_mul] at this
  omega
theorem or_u64 (A C b : Nat) (hb : b ≤ 28) (ha : A < 2 ^ b) (hc : C < 4096) : bits BinOp.or IntKind.u64 (A : Int) ((C : Int) * 2 ^ b) = ((A + C * 2 ^ b : Nat) : Int) := by
  have h1 := acc_lt' A C b ha hc
  have h2 : 4096 * 2 ^ b ≤ 4096 * 2 ^ 28 := Nat.mul_le_mul_left _ (Nat.pow_le_pow_right (by omega) hb)
  have h := (bits_nat .u64 64 (by decide) wraps_u64 A (C * 2 ^ b) (by omega) (by omega)).2
  rw [acc_or A C b ha] at h
  rw [← h]
  congr 1

theorem owns_word {w : World} {B N A e n : Nat} {v : Value} {xs : List Value} {x : Int} (hB : leB N (4 * e + 4) = leB N (4 * e) ++ [((A % 4294967296 : Nat) : Int) % 256, ((A % 4294967296 : Nat) : Int) / 256 % 256, ((A % 4294967296 : Nat) : Int) / 65536 % 256, ((A % 4294967296 : Nat) : Int) / 16777216])
    (hx : x = ((A % 4294967296 : Nat) : Int)) (h : w.ownsRow B 5 1 v (n + 4 * e + 4) (xs ++ bytesV (leB N (4 * e)) ++ bytesV [x % 256, x / 256 % 256, x / 65536 % 256, x / 16777216])) :
    w.ownsRow B 5 1 v (n + 4 * (e + 1)) (xs ++ bytesV (leB N (4 * (e + 1)))) := by
  rw [← hx] at hB
  rw [show 4 * (e + 1) = 4 * e + 4 by omega, hB, bytesV_append, ← List.append_assoc]
  exact h

set_option maxRecDepth 100000 in
set_option maxHeartbeats 4000000 in
theorem encode_any (B n g0 cap0 P N : Nat) (xs : List Value) (w : World) (hown : w.ownsRow B 5 1 (.slice (some ⟨g0, 0, none⟩) n cap0) n xs) (hB : B ≤ w.heap.size) (hn : n ≤ 100000000)
    (hP : P < w.heap.size) (hPg : P ≠ g0) (hc : ∀ t, t < 256 → w.cell? ⟨P, t, none⟩ = some (.int .u16 ((N / 2 ^ (12 * t) % 4096 : Nat) : Int))) :
    Calls Yba.prog 12 #[.slice (some ⟨g0, 0, none⟩) n cap0, .pointer (some ⟨P, 0, none⟩), .int .u8 12] w fun e w' => ∃ g cap, e = .returned (.slice (some ⟨g, 0, none⟩) (n + 384) cap) ∧
      w'.ownsRow B 5 1 (.slice (some ⟨g, 0, none⟩) (n + 384) cap) (n + 384) (xs ++ bytesV (leB N 384)) ∧ Grew w w' (.slice (some ⟨g0, 0, none⟩) n cap0) (.slice (some ⟨g, 0, none⟩) (n + 384) cap) := by
  have HC : Hid _ := hc
  clear hc
  go_enter Yba.func12, Yba.ntmps12
  go_wp2_with fail
  go_loopw [0, 7, 8, 12] (fun v ac bt iv wr => ∃ i g cap : Nat, i ≤ 256 ∧ iv = .int .i64 i ∧ bt = .int .u8 ((12 * i % 32 : Nat) : Int) ∧ ac = .int .u64 ((N % 2 ^ (12 * i) / 2 ^ (32 * (12 * i / 32)) : Nat) : Int) ∧ v = .slice (some ⟨g, 0, none⟩) (n + 4 * (12 * i / 32)) cap ∧
      wr.ownsRow B 5 1 (.slice (some ⟨g, 0, none⟩) (n + 4 * (12 * i / 32)) cap) (n + 4 * (12 * i / 32)) (xs ++ bytesV (leB N (4 * (12 * i / 32)))) ∧ Grew w wr (.slice (some ⟨g0, 0, none⟩) n cap0) (.slice (some ⟨g, 0, none⟩) (n + 4 * (12 * i / 32)) cap)) (fun _ _ _ iv _ => (256 - intOf iv).toNat)
  case atStart => exact ⟨0, g0, cap0, by omega, rfl, rfl, by simp [Nat.mod_one], rfl, by simpa [leB, bytesV] using hown, Grew.refl _ _⟩
  case round =>
    obtain ⟨i, g, cap, hi, rfl, rfl, rfl, rfl, hown1, hgrow1⟩ := hrel
    by_cases h : i < 256
    · have hcell := HC.out i h
      rw [← hgrow1.cell (p := ⟨P, i, none⟩) hP (by simp [Value.ownBlock]; omega)] at hcell
      obtain ⟨e, he⟩ : ∃ e, e = 12 * i / 32 := ⟨_, rfl⟩
      obtain ⟨b, hb⟩ : ∃ b, b = 12 * i % 32 := ⟨_, rfl⟩
      rw [← he] at hown1 hgrow1 ⊢
      rw [← hb]
      have hib : 12 * i = 32 * e + b := by omega
      have ha := acc_lt N i e b hib
      have hsum := acc_add N i e b hib
      have hc4 : N / 2 ^ (12 * i) % 4096 < 4096 := Nat.mod_lt _ (by omega)
      generalize N % 2 ^ (12 * i) / 2 ^ (32 * e) = A at *
      generalize N / 2 ^ (12 * i) % 4096 = C at *
      have HI : Hid (12 * i = 32 * e + b) := hib
      have hlt := acc_lt' A C b ha hc4
      obtain ⟨A2, HA2⟩ : ∃ A2, Hid (A2 = N % 2 ^ (12 * (i + 1)) / 2 ^ (32 * e)) := ⟨_, rfl⟩
      rw [← HA2.out] at hsum
      have HS : Hid (A + C * 2 ^ b = A2) := hsum
      have HA : Hid (A < 2 ^ b) := ha
      rw [hsum] at hlt
      clear hsum ha
      by_cases hlow : b < 20
      · have HL : Hid (12 * (i + 1) / 32 = e ∧ 12 * (i + 1) % 32 = b + 12) := (show _ ∧ _ by omega)
        have hb8 : b = 0 ∨ b = 4 ∨ b = 8 ∨ b = 12 ∨ b = 16 := by omega
        clear he hb hib hlow
        rcases hb8 with rfl | rfl | rfl | rfl | rfl
        all_goals
          have hA := HA.out
          have hor := or_u64 A C _ (by omega) hA hc4
          rw [HS.out] at hor
          simp only [Nat.reducePow, Int.reducePow, Nat.reduceMul, Int.mul_one] at hor hA hlt
          go_wp2_with fail
          go_roundw
          case rel =>
            refine ⟨i + 1, g, cap, by omega, by simp, by rw [HL.out.2]; rfl, by rw [HL.out.1, HA2.out], by rw [HL.out.1], ?_, ?_⟩
            · rw [HL.out.1]; exact hown1
            · rw [HL.out.1]; exact hgrow1
          case measure => simp [intOf]; omega
      · have HL : Hid (12 * (i + 1) / 32 = e + 1 ∧ 12 * (i + 1) % 32 + 20 = b) := (show _ ∧ _ by omega)
        have hb8 : b = 20 ∨ b = 24 ∨ b = 28 := by omega
        have HB := acc_bytes N (12 * (i + 1)) e (by omega) (A2 % 4294967296) (by rw [HA2.out])
        have HB : Hid _ := HB
        have HD : Hid (N % 2 ^ (12 * (i + 1)) / 2 ^ (32 * (e + 1)) = A2 / 4294967296) := by
          show _ = _
          rw [HA2.out, Nat.div_div_eq_div_mul, show 32 * (e + 1) = 32 * e + 32 by omega, Nat.pow_add]
        have hs1 := hgrow1.size
        have he96 : e ≤ 96 := by omega
        clear he hb hib hlow
        rcases hb8 with rfl | rfl | rfl
        all_goals
          have hA := HA.out
          have hor := or_u64 A C _ (by omega) hA hc4
          rw [HS.out] at hor
          simp only [Nat.reducePow, Int.reducePow, Nat.reduceMul] at hor hA hlt
          go_wp2_with fail
          refine (app32 B _ g cap _ _ _ hown1 (by omega) (by omega) (by omega) (by omega)).mono ?_
          rintro _ w2 ⟨g2, cap2, rfl, hown2, hgrow2⟩
          go_wp2_with fail
          go_roundw
          case rel =>
            refine ⟨i + 1, g2, cap2, by omega, by simp, ?_, by rw [HL.out.1, HD.out]; simp, by rw [HL.out.1]; rfl, ?_, ?_⟩
            · have := HL.out.2
              congr 1
              omega
            · rw [HL.out.1]; exact owns_word HB.out (by omega) hown2
            · rw [HL.out.1]; exact hgrow1.trans hgrow2
          case measure => simp [intOf]; omega
    · obtain rfl : i = 256 := by omega
      go_wp2_with fail
      go_ret
      exact ⟨g, cap, rfl, hown1, hgrow1⟩
end Go.Proofs.Ybulkdizg
