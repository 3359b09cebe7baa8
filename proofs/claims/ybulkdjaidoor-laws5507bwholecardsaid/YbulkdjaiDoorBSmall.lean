/-
  THE SMALL FUNCTIONS of LawS5507BWhole and ParseViewChange, walked over this dump.
-/
import Derived.Test.YbulkdjaiDoorBLay
import Derived.Test.YbulkdjaiDoorRead
import Derived.Lib.SliceRun
namespace Go.Proofs.YbulkdjaiDoor.B
open Go.RowKit

/-- Every number is a byte. -/
def Byt (l : List Int) : Prop := ∀ v ∈ l, 0 ≤ v ∧ v < 256
theorem Byt.append {a b : List Int} (ha : Byt a) (hb : Byt b) : Byt (a ++ b) := fun v hv => by
  rcases List.mem_append.1 hv with h | h
  · exact ha v h
  · exact hb v h
theorem Byt.one {v : Int} (h0 : 0 ≤ v) (h1 : v < 256) : Byt [v] := fun u hu => by
  rw [List.mem_singleton] at hu; subst hu; exact ⟨h0, h1⟩
theorem Byt.be (x : Int) : ∀ k, Byt (be x k)
  | 0 => fun v hv => absurd hv (by simp [B.be])
  | k + 1 => fun v hv => by
    rw [B.be, List.mem_cons] at hv
    rcases hv with rfl | hv
    · unfold byteOf; omega
    · exact Byt.be x k v hv
theorem Byt.getD {l : List Int} (h : Byt l) (i : Nat) : 0 ≤ l.getD i 0 ∧ l.getD i 0 < 256 := by
  by_cases hi : i < l.length
  · rw [List.getD_eq_getElem?_getD, List.getElem?_eq_getElem hi]; exact h _ (List.getElem_mem hi)
  · rw [List.getD_eq_getElem?_getD, List.getElem?_eq_none (by omega)]; simp

theorem be_round8 {w : World} {B e n cnt k : Nat} {u : Value} {xs : List Value} {x : Int} (hk : k ≤ cnt) (h0 : 0 < k)
    (h : w.ownsRow B e 1 u (n + (cnt - k) + 1) ((xs ++ bytesV ((be x cnt).take (cnt - k))) ++ [.int .u8 (x / 2 ^ (8 * (k - 1)) % 256)])) :
    w.ownsRow B e 1 u (n + (cnt - (k - 1))) (xs ++ bytesV ((be x cnt).take (cnt - (k - 1)))) := by
  rw [Nat.mul_comm] at h
  exact be_round hk h0 h

set_option maxHeartbeats 4000000 in
set_option maxRecDepth 100000 in
theorem put_any (B n g0 cap0 cnt : Nat) (hcnt : cnt ≤ 8) (xs : List Value) (x : Int) (_hx0 : 0 ≤ x) (_hx : x < 18446744073709551616) (w : World) (hown : w.ownsRow B 5 1 (.slice (some ⟨g0, 0, none⟩) n cap0) n xs) (hB : B ≤ w.heap.size) (hn : n ≤ 100000000) :
    Calls Ybad.prog 5 #[.slice (some ⟨g0, 0, none⟩) n cap0, .int .u64 x, .int .i64 cnt] w fun e w' => ∃ g cap, e = .returned (.slice (some ⟨g, 0, none⟩) (n + cnt) cap) ∧
      w'.ownsRow B 5 1 (.slice (some ⟨g, 0, none⟩) (n + cnt) cap) (n + cnt) (xs ++ bytesV (be x cnt)) ∧ Grew w w' (.slice (some ⟨g0, 0, none⟩) n cap0) (.slice (some ⟨g, 0, none⟩) (n + cnt) cap) := by
  go_enter Ybad.func5, Ybad.ntmps5
  go_wp2_with fail
  go_loopw [0, 7] (fun v iv wr => ∃ k g cap : Nat, k ≤ cnt ∧ iv = .int .i64 ((k : Int) - 1) ∧ v = .slice (some ⟨g, 0, none⟩) (n + (cnt - k)) cap ∧
      wr.ownsRow B 5 1 (.slice (some ⟨g, 0, none⟩) (n + (cnt - k)) cap) (n + (cnt - k)) (xs ++ bytesV ((be x cnt).take (cnt - k))) ∧ Grew w wr (.slice (some ⟨g0, 0, none⟩) n cap0) (.slice (some ⟨g, 0, none⟩) (n + (cnt - k)) cap)) (fun _ iv _ => (intOf iv + 1).toNat)
  case atStart => exact ⟨cnt, g0, cap0, Nat.le_refl _, rfl, by simp, by simpa [bytesV] using hown, by simpa using Grew.refl w (.slice (some ⟨g0, 0, none⟩) n cap0)⟩
  case round =>
    obtain ⟨k, g, cap, hk, rfl, rfl, hown1, hgrow1⟩ := hrel
    have hs1 := hgrow1.size
    by_cases h0 : 0 < k
    · go_wp2_with (at_builtin; go_must (refine wpList_app wr rfl _ _ 25 rfl 5 Ybad.underlying25 info5 B g cap _ _ (by rfl) hown1 wr.heap.size rfl 1 _ (by rfl) (by rfl) (by simp [Value.oneCell']) (by omega) (by omega) (by omega) ?_); intro g2 cap2 w2 hown2 hgrow2)
      have R := be_round8 hk h0 hown2
      have G := hgrow1.trans hgrow2
      rw [show n + (cnt - k) + 1 = n + (cnt - (k - 1)) by omega] at R G ⊢
      clear hown2 hgrow2 hown1 hgrow1
      go_wp2_with fail
      go_roundw
      case rel => exact ⟨k - 1, g2, cap2, by omega, by go_num, rfl, R, G⟩
      case measure => simp [intOf]; omega
    · obtain rfl : k = 0 := by omega
      go_wp2_with fail
      go_ret
      exact ⟨g, cap, rfl, by simpa [length_be, List.take_of_length_le] using hown1, hgrow1⟩

set_option maxHeartbeats 4000000 in
theorem ktab_any (i : Nat) (w : World) : Calls Ybad.prog 6 #[.int .i64 i] w fun e w' => (∃ v : Int, e = .returned (.int .u8 v) ∧ 0 ≤ v ∧ v < 256) ∧ w' = w := by
  have h10 : i % 10 = 0 ∨ i % 10 = 1 ∨ i % 10 = 2 ∨ i % 10 = 3 ∨ i % 10 = 4 ∨ i % 10 = 5 ∨ i % 10 = 6 ∨ i % 10 = 7 ∨ i % 10 = 8 ∨ i % 10 = 9 := by omega
  have hI : (i : Int) % 10 = ((i % 10 : Nat) : Int) := by omega
  rcases h10 with h | h | h | h | h | h | h | h | h | h
  all_goals
    rw [h] at hI
    clear h
    go_enter Ybad.func6, Ybad.ntmps6
    go_wp2_with fail
    go_ret
    exact ⟨⟨_, rfl, by omega, by omega⟩, rfl⟩

/-- The kinds that a VIEW-CHANGE carries. -/
def okK (v : Int) : Bool := v == 15 || v == 20 || v == 2 || v == 13 || v == 11 || v == 12 || v == 29 || v == 31 || v == 10

theorem kinds (v : Int) : v = 15 ∨ v = 20 ∨ v = 2 ∨ v = 13 ∨ v = 11 ∨ v = 12 ∨ v = 29 ∨ v = 31 ∨ v = 10 ∨ ((v == 15) = false ∧ (v == 20) = false ∧ (v == 2) = false ∧ (v == 13) = false ∧ (v == 11) = false ∧ (v == 12) = false ∧ (v == 29) = false ∧ (v == 31) = false ∧ (v == 10) = false) := by
  simp only [beq_eq_false_iff_ne]
  omega

set_option maxHeartbeats 4000000 in
theorem ok_any (v : Int) (w : World) : Calls Ybad.prog 10 #[.int .u8 v] w fun e w' => e = .returned (.bool (okK v)) ∧ w' = w := by
  rcases kinds v with rfl | rfl | rfl | rfl | rfl | rfl | rfl | rfl | rfl | ⟨h1, h2, h3, h4, h5, h6, h7, h8, h9⟩
  all_goals
    go_enter Ybad.func10, Ybad.ntmps10
    go_wp2_with fail
    go_ret
    exact ⟨by simp [okK, *], rfl⟩

def shows (v : Int) : Bool := v == 15 || v == 20 || v == 2 || v == 13 || v == 11 || v == 12

set_option maxHeartbeats 4000000 in
theorem shows_any (v : Int) (w : World) : Calls Ybad.prog 20 #[.int .u8 v] w fun e w' => e = .returned (.bool (shows v)) ∧ w' = w := by
  rcases kinds v with rfl | rfl | rfl | rfl | rfl | rfl | rfl | rfl | rfl | ⟨h1, h2, h3, h4, h5, h6, h7, h8, h9⟩
  all_goals
    go_enter Ybad.func20, Ybad.ntmps20
    go_wp2_with fail
    go_ret
    exact ⟨by simp [shows, *], rfl⟩

set_option maxHeartbeats 4000000 in
theorem closure_any (g o n c : Nat) (v : Int) (w : World) (hn : 0 < n) (c0 : w.cell? ⟨g, o, none⟩ = some (.int .u8 v)) :
    Calls Ybad.prog 19 #[.slice (some ⟨g, o, none⟩) n c] w fun e w' => e = .returned (.bool (okK v)) ∧ w' = w := by
  rcases kinds v with rfl | rfl | rfl | rfl | rfl | rfl | rfl | rfl | rfl | ⟨h1, h2, h3, h4, h5, h6, h7, h8, h9⟩
  all_goals
    go_enter Ybad.func19, Ybad.ntmps19
    go_wp2_with fail
    refine (kindOf_any g o n c _ w hn c0).mono ?_
    rintro e w1 ⟨rfl, rfl⟩
    go_wp2_with fail
    refine (shows_any _ _).mono ?_
    rintro e w2 ⟨rfl, rfl⟩
    try (have hs : shows v = false := by simp [shows, *])
    simp only [shows] at *
    go_wp2_with fail
    go_ret
    exact ⟨by simp [okK, *], rfl⟩

/-- The number that bytes spell, the most significant first. -/
def beN (l : List Int) : Int := l.foldl (fun x b => x * 256 + b) 0
theorem beN_snoc (l : List Int) (b : Int) : beN (l ++ [b]) = beN l * 256 + b := by simp [beN]
theorem beN_bd {l : List Int} (h : Byt l) : ∀ k, k ≤ l.length → 0 ≤ beN (l.take k) ∧ beN (l.take k) < 256 ^ k
  | 0, _ => by simp [beN]
  | k + 1, hk => by
    obtain ⟨h1, h2⟩ := beN_bd h k (by omega)
    have hb := h _ (List.getElem_mem (show k < l.length by omega))
    rw [List.take_add_one, List.getElem?_eq_getElem (show k < l.length by omega), Option.toList_some, beN_snoc, Int.pow_succ]
    generalize (256 : Int) ^ k = P at *
    omega

theorem or_low (x b : Nat) (hx : x < 72057594037927936) (hb : b < 256) : bits BinOp.or IntKind.u64 ((x : Int) * 256) (b : Int) = (x : Int) * 256 + (b : Int) := by
  have h := (bits_nat .u64 64 (by decide) wraps_u64 (x * 2 ^ 8) b (by omega) (by omega)).2
  rw [Nat.mul_comm, ← Nat.two_pow_add_eq_or_of_lt (by omega)] at h
  have e : ((2 ^ 8 * x : Nat) : Int) = (x : Int) * 256 := by simp [Int.mul_comm]
  have e2 : ((2 ^ 8 * x + b : Nat) : Int) = (x : Int) * 256 + (b : Int) := by simp [Int.mul_comm]
  rw [e, e2] at h
  exact h

set_option maxHeartbeats 4000000 in
set_option maxRecDepth 100000 in
theorem be_any (g o n c : Nat) (l : List Int) (hl : l.length = n) (hby : Byt l) (hn : n ≤ 8) (w : World) (hc : ∀ j, j < n → w.cell? ⟨g, o + j, none⟩ = some (.int .u8 (l.getD j 0))) :
    Calls Ybad.prog 11 #[.slice (some ⟨g, o, none⟩) n c] w fun e w' => e = .returned (.int .u64 (beN l)) ∧ w' = w := by
  have HC := hide hc
  clear hc
  go_enter Ybad.func11, Ybad.ntmps11
  go_wp2_with fail
  go_loopw [3, 4] (fun xv iv wr => ∃ i : Nat, i ≤ n ∧ iv = .int .i64 i ∧ xv = .int .u64 (beN (l.take i)) ∧ wr = w) (fun _ iv _ => (n - intOf iv).toNat)
  case atStart => exact ⟨0, by omega, rfl, rfl, rfl⟩
  case round =>
    obtain ⟨i, hi, rfl, rfl, rfl⟩ := hrel
    by_cases h : i < n
    · have hcell := HC.out i h
      obtain ⟨x0, x1⟩ := beN_bd hby i (by omega)
      have hp0 : 256 ^ i ≤ 256 ^ 7 := Nat.pow_le_pow_right (by omega) (by omega)
      have hp1 : (256 : Int) ^ i = ((256 ^ i : Nat) : Int) := by simp
      have hp : (256 : Int) ^ i ≤ 72057594037927936 := by rw [hp1]; omega
      have hb := hby.getD i
      have HN : Hid (beN (l.take (i + 1)) = beN (l.take i) * 256 + l.getD i 0) := by
        show _ = _
        rw [List.take_add_one, List.getElem?_eq_getElem (show i < l.length by omega), Option.toList_some, beN_snoc]
        simp [List.getElem?_eq_getElem (show i < l.length by omega)]
      have hx7 : beN (l.take i) < 72057594037927936 := by omega
      clear hp hp0 hp1 x1
      generalize beN (l.take i) = x at *
      generalize l.getD i 0 = b at *
      obtain ⟨x, rfl⟩ := Int.eq_ofNat_of_zero_le x0
      obtain ⟨b, rfl⟩ := Int.eq_ofNat_of_zero_le hb.1
      have hor := or_low x b (by omega) (by omega)
      go_wp2_with fail
      go_roundw
      case rel => exact ⟨i + 1, by omega, by simp, by rw [HN.out], trivial⟩
      case measure => simp [intOf]; omega
    · obtain rfl : i = n := by omega
      go_wp2_with fail
      go_ret
      exact ⟨by rw [List.take_of_length_le (by omega)]; rfl, rfl⟩

set_option maxHeartbeats 4000000 in
set_option maxRecDepth 100000 in
theorem u32_any (g o n c : Nat) (b0 b1 b2 b3 : Int) (w : World) (hn : 4 ≤ n)
    (h0 : 0 ≤ b0 ∧ b0 < 256) (h1 : 0 ≤ b1 ∧ b1 < 256) (h2 : 0 ≤ b2 ∧ b2 < 256) (h3 : 0 ≤ b3 ∧ b3 < 256)
    (c0 : w.cell? ⟨g, o, none⟩ = some (.int .u8 b0)) (c1 : w.cell? ⟨g, o + 1, none⟩ = some (.int .u8 b1)) (c2 : w.cell? ⟨g, o + 2, none⟩ = some (.int .u8 b2)) (c3 : w.cell? ⟨g, o + 3, none⟩ = some (.int .u8 b3)) :
    Calls Ybad.prog 17 #[.agg #[], .slice (some ⟨g, o, none⟩) n c] w fun e w' => e = .returned (.int .u32 (b3 + b2 * 256 + b1 * 65536 + b0 * 16777216)) ∧ ∃ k, w' = (w.alloc (.cells #[] 53)).drewN k := by
  have d0 := cell_new w (.cells #[] 53) c0
  have d1 := cell_new w (.cells #[] 53) c1
  have d2 := cell_new w (.cells #[] 53) c2
  have d3 := cell_new w (.cells #[] 53) c3
  clear c0 c1 c2 c3
  obtain ⟨h0a, h0b⟩ := h0; obtain ⟨h1a, h1b⟩ := h1; obtain ⟨h2a, h2b⟩ := h2; obtain ⟨h3a, h3b⟩ := h3
  have q0 : 0 < n := by omega
  have q1 : (1 : Int) < (n : Int) := by omega
  have q2 : (2 : Int) < (n : Int) := by omega
  have q3 : (3 : Int) < (n : Int) := by omega
  go_enter Ybad.func17, Ybad.ntmps17
  go_wp2
  go_quiet (fail)
  go_wp2
  go_ret
  refine ⟨?_, _, rfl⟩
  simp (disch := omega) only [u32_or8, u32_or16, u32_or24]
  rfl

set_option maxHeartbeats 1000000 in
theorem clone_any (g n cap : Nat) (l : List Int) (hl : l.length = n) (hn : n ≤ 10000000) (w : World) (hb : BytesIn w (some ⟨g, 0, none⟩) n l) :
    Calls Ybad.prog 7 #[.slice (some ⟨g, 0, none⟩) n cap] w fun e w' => ∃ g' cap', e = .returned (.slice (some ⟨g', 0, none⟩) n cap') ∧ BytesIn w' (some ⟨g', 0, none⟩) n l ∧ Below w.heap.size w w' := by
  have hnil := fun (W : World) => Lib.run_eql_slice_nil (P := Ybad.prog) W 25 5 (some ⟨g, 0, none⟩) n cap 0 0 Ybad.underlying25
  have ho : (w.alloc (.cells #[] 5)).ownsRow w.heap.size 5 1 (.slice (some ⟨w.heap.size, 0, none⟩) 0 0) 0 [] :=
    World.ownsRow_made (base := w.heap.size) (e := 5) (size := 1) w #[] 0 (Nat.le_refl _) (by unfold maxLen; omega) rfl
  have hb1 := hb.later ((Below.refl _ _).alloc (Nat.le_refl _) (.cells #[] 5))
  have HB1 := hide hb1
  clear hb1
  go_enter Ybad.func7, Ybad.ntmps7
  go_wp2_with (at_builtin; go_must (refine wpList_app_in _ rfl _ _ 25 rfl w.heap.size 5 Ybad.underlying25 info5 w.heap.size 0 _ _ (by rfl) ho (some ⟨g, 0, none⟩) n cap l (by rfl) hl HB1.out (by omega) (by simp) ?_); intro g7 cap7 w7 hown7 hgrow7)
  go_ret
  simp only [Nat.zero_add, List.nil_append] at hown7 ⊢
  exact ⟨g7, cap7, rfl, owns_in hown7, ((Below.refl _ _).alloc (Nat.le_refl _) _).trans (hgrow7.below (by simp) ho)⟩
end Go.Proofs.YbulkdjaiDoor.B
