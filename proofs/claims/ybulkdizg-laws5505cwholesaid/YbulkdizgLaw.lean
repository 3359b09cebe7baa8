/-
  THE LAW LawS5505CWhole walked over this dump.
-/
import Derived.Test.YbulkdizgLay
import Derived.IntWalk
import Derived.BigQuiet
import Derived.Laws.Runes
namespace Go.Proofs.Ybulkdizg
open Go.RowKit

theorem hide {p : Prop} (h : p) : Hid p := h
theorem Filled.drew {w wr : World} {k m : Nat} {rho c : List Int} {cs : Array Value} (h : Filled w wr k rho c m cs) : Filled w wr.drew k rho c m cs := ⟨h.1, h.2.1, h.2.2.1, h.2.2.2.1.drew, h.2.2.2.2.1, h.2.2.2.2.2⟩

theorem coef_at (a0 : Option Addr) (len0 cap0 i j : Nat) (jI : Int) (hjI : jI = (j : Int)) (c : List Int) (w : World) (hl : c.length = len0) (hn : len0 ≤ 1048576) (hi : i < 4) (hj : j < 256)
    (hc : 0 < len0 → ∃ b o, a0 = some ⟨b, o, none⟩ ∧ ∀ t, t < len0 → w.cell? ⟨b, o + t, none⟩ = some (.int .u16 (c.getD t 0))) (hb : ∀ t, 0 ≤ c.getD t 0 ∧ c.getD t 0 ≤ 65535) :
    Calls Yba.prog 8 #[.slice a0 len0 cap0, .int .i64 i, .int .i64 jI] w fun e w' => e = .returned (.int .u16 (coefN c i j : Nat)) ∧ w' = w := by
  subst hjI
  rw [← coefN_eq]
  exact coef_any a0 len0 cap0 i j c w hl hn hi hj hc hb

theorem owns_three {w : World} {B n m N x y : Nat} {v : Value} {bs P : List Int} {X Y Z : Int} (hL : leB N (3 * (m + 1)) = leB N (3 * m) ++ [((x % 256 : Nat) : Int), ((x / 256 + y % 16 * 16 : Nat) : Int), ((y / 16 : Nat) : Int)])
    (h : w.ownsRow B 5 1 v (n + 3 * m + 3) (bytesV bs ++ bytesV (P ++ leB N (3 * m)) ++ [.int .u8 X, .int .u8 Y, .int .u8 Z])) (hX : X = (x : Int) % 256) (hY : Y = (x : Int) / 256 + (y : Int) % 16 * 16) (hZ : Z = (y : Int) / 16) :
    w.ownsRow B 5 1 v (n + 3 * (m + 1)) (bytesV bs ++ bytesV (P ++ leB N (3 * (m + 1)))) := by
  subst hX hY hZ
  rw [hL, ← List.append_assoc P, bytesV_append (P ++ leB N (3 * m)), ← List.append_assoc (bytesV bs)]
  exact h
theorem three_facts (x y : Nat) (hx : x < 4096) (hy : y < 4096) : bits BinOp.and IntKind.u16 (x : Int) 255 = (x : Int) % 256 ∧ bits BinOp.and IntKind.u16 (y : Int) 15 = (y : Int) % 16 ∧ bits BinOp.or IntKind.u8 ((x : Int) / 256) ((y : Int) % 16 * 16) = (x : Int) / 256 + (y : Int) % 16 * 16 := by
  have h1 := (bits_and x (by omega)).1
  have h2 := (bits_and y (by omega)).2
  have h3 := or_u8 (x / 256) (y % 16) (by omega) (by omega)
  exact ⟨by simpa using h1, by simpa using h2, by simpa using h3⟩

theorem row_cells {w : World} {g t : Nat} {rho : List Int} (h : w.heap[g]? = some (.cells (bytesV rho).toArray t (0, 0))) : ∀ j u, (bytesV rho)[j]? = some u → w.cell? ((⟨g, 0, none⟩ : Addr).add j) = some u := by
  intro j u hj
  rw [Go.WideShapes.add_plain, Nat.zero_add, Joins.cell_of_block h]
  simpa using hj

theorem range_whole {w : World} {b : Nat} {C : Array Value} {t : TypeId} {fr : Nat × Nat} (hb : w.heap[b]? = some (.cells C t fr)) : w.rangeAt b 0 C.toList := fun j v hv => by
  rw [cell_of_row w b (0 + j) C t fr hb]
  simpa using hv

/-- The load of a whole block in a region that only reads. -/
theorem quiet_load_row {P : Program} {W : World} {a : Act} {o : Oper} {K : Act → Prop} (ty : TypeId) (x : Operand) (ho : o.op = .load ty x) (g : Nat) (hx : a.eval x = .pointer (some ⟨g, 0, none⟩)) (t : TypeId) (cs : Array Value) (fr : Nat × Nat) (d : TypeDesc) (hg : W.heap[g]? = some (.cells cs t fr))
    (hu : P.underlying ty = some d) (hd : (match d with | .struct _ | .array _ _ => true | _ => false) = true) (hi : (P.info? ty).map (·.size) = some cs.size) (hk : K (a.put o.dst (.agg cs))) : o.quiet P a (fun w' => ∃ n, w' = W.drewN n) K :=
  ⟨.agg cs, fun w hw => by
    obtain ⟨n, rfl⟩ := hw
    unfold Oper.quietAt execOp
    simp only [ho, hx, Instr.loadAt, Instr.sureAddr, Sem.run_bind, Sem.run_pure, Result.andThen_ok, run_loadVar_row (P := P) (W.drewN n) g t ty cs fr d hg hu hd hi]
    exact ⟨rfl, rfl⟩, hk⟩

set_option maxRecDepth 100000 in
set_option maxHeartbeats 8000000 in
theorem law_any (sel : Nat) (a1 : Option Addr) (len1 cap1 : Nat) (c : List Int) (rho : List Int) (a0 : Option Addr) (len0 cap0 : Nat) (bs : List Int) (w : World)
    (hl1 : c.length = len1) (hc : ∀ W, Below w.heap.size w W → 0 < len1 → ∃ b o, a1 = some ⟨b, o, none⟩ ∧ ∀ t, t < len1 → W.cell? ⟨b, o + t, none⟩ = some (.int .u16 (c.getD t 0))) (hcb : ∀ t, 0 ≤ c.getD t 0 ∧ c.getD t 0 ≤ 65535)
    (hl0 : bs.length = len0) (hb : BytesIn w a0 len0 bs) (hr : rho.length = 32) (hn0 : len0 ≤ 1048576) (hn1 : len1 ≤ 1048576) (hs : sel < 256) :
    Calls Yba.prog 4 #[.int .u8 sel, .slice a1 len1 cap1, .agg (bytesV rho).toArray, .slice a0 len0 cap0] w fun e w' => e = .returned (.bool true) ∧ Below w.heap.size w w' := by
  have hd0 : decide (1048576 < (len0 : Int)) = false := by simp; omega
  have hd1 : decide (1048576 < (len1 : Int)) = false := by simp; omega
  obtain ⟨R, HR⟩ : ∃ R : Array Value, Hid (R = (bytesV rho).toArray) := ⟨_, rfl⟩
  obtain ⟨cs0, hb47, hek0⟩ := built47 (w.heap.size + 1) rho hr
  have hsR : (Yba.prog.info? 34).map (·.size) = some R.size := by rw [size34, HR.out]; simp [length_bytesV, hr]
  rw [← HR.out] at hb47 ⊢
  have HC := hide (hc)
  have HCB := hide (hcb)
  have HB47 := hide (hb47)
  have HSR := hide (hsR)
  clear hc hcb hb47 hsR
  go_enter Yba.func4, Yba.ntmps4
  go_wp2_with (first
    | (refine wpList_load_row rfl 34 (.tmp 6) rfl w.heap.size (by rfl) 34 R (0, 0) _ ((Below.heap_alloc _ _ _ (by simp)).trans (heap_alloc_new w _)) Yba.underlying34 rfl HSR.out ?_)
    | (refine wpList_build_is rfl 47 0 2 (.tmp 34) (.tmp 35) rfl _ _ (by rfl) (by rfl) cs0 HB47.out ?_))
  go_loopw [11] (fun iv wr => ∃ i cs, i ≤ 4 ∧ iv = .int .i64 (i : Nat) ∧ Filled w wr (sel % 5) rho c (256 * i) cs) (fun iv _ => (4 - intOf iv).toNat)
  case atStart =>
    exact ⟨0, cs0, by omega, rfl, filled_start w R cs0 _ _ _ _ _ _ _ rho c HR.out hek0 (by simp)⟩
  case round =>
    obtain ⟨i, cs, hi, rfl, hfill⟩ := hrel
    by_cases h4 : i < 4
    · have hdi : decide ((i : Int) < 4) = true := by simp; omega
      go_wp2_with fail
      go_loopw [12] (fun jv wr => ∃ j cs, j ≤ 256 ∧ jv = .int .i64 (j : Nat) ∧ Filled w wr (sel % 5) rho c (256 * i + j) cs) (fun jv _ => (256 - intOf jv).toNat)
      case atStart => exact ⟨0, cs, by omega, rfl, hfill⟩
      case round =>
        clear hfill
        obtain ⟨j, cs, hj, rfl, hfill⟩ := hrel
        by_cases h256 : j < 256
        · have hI : (i : Int) < 4 := by omega
          have hJ : (j : Int) < 256 := by omega
          have hcW := HC.out _ hfill.2.2.2.1
          have HCW := hide (hcW)
          obtain ⟨hco0, hco1⟩ := coefOf_bd c i j
          clear hcW
          go_wp2_with fail
          have hek := hfill.2.1
          have hrow := hfill.1
          have hfz : wr.frozen? ⟨w.heap.size + 1 + 1, 1 + i * 256 + j, none⟩ = false := Joins.unfrozen_of_block hrow (1 + i * 256 + j)
          obtain ⟨kk, aa, hold⟩ := hek.ints (1 + i * 256 + j) (by omega) (by omega)
          have hold : wr.cell? ⟨w.heap.size + 1 + 1, 1 + i * 256 + j, none⟩ = some (.int kk aa) := (Joins.cell_of_block hrow _).trans hold
          have HF := hide (hfill)
          have HEK := hide (hek)
          clear hfill hrow hek
          go_region_held3 (fun _ => True) (go_keep)
            (first | (go_at_call 8; refine (coef_any a1 len1 cap1 i j c _ hl1 hn1 h4 h256 (by exact HCW.out) HCB.out).mono ?_; rintro e w2 ⟨rfl, rfl⟩))
          have hwrap : IntKind.i16.wrap (coefOf c i j) = coefOf c i j := IntWalk.i16_in _ (by omega)
          try rw [hwrap]
          have HF2 : Hid (Filled w (wr.setCell ⟨w.heap.size + 1 + 1, 1 + i * 256 + j, none⟩ (.int .i16 (coefOf c i j))).drew (sel % 5) rho c (256 * i + (j + 1)) (cs.setIfInBounds (1 + i * 256 + j) (.int .i16 (coefOf c i j)))) := (Filled.step (q := 1 + i * 256 + j) HF.out h4 h256 (by omega)).drew
          clear hold hfz HF HEK
          go_wp2_with fail
          go_roundw
          case rel =>
            exact ⟨j + 1, cs.setIfInBounds (1 + i * 256 + j) (.int .i16 (coefOf c i j)), by omega, by simp, HF2⟩
          case measure => simp [intOf]; omega
        · obtain rfl : j = 256 := by omega
          go_wp2_with fail
          go_roundw
          case rel => exact ⟨i + 1, cs, by omega, by simp, hfill⟩
          case measure => simp [intOf]; omega
    · obtain rfl : i = 4 := by omega
      obtain ⟨wr0, HWR⟩ : ∃ wr0, wr0 = wr := ⟨_, rfl⟩
      subst HWR
      obtain ⟨zs, hz47, hzs⟩ : ∃ zs : Array Value, (zeroValue 47).run Yba.prog wr0 = .ok (.agg zs) wr0 ∧ zs.size = 5185 := by
        obtain ⟨zs, ⟨it, hi, hz⟩, hs, _⟩ := zero47
        exact ⟨zs, by simp [zeroValue, typeInfo, hi, hz], hs⟩
      have hrow : wr0.heap[w.heap.size + 1 + 1]? = some (.cells cs 47 (0, 0)) := hfill.1
      have hsz : (Yba.prog.info? 47).map (·.size) = some cs.size := by rw [size47, hfill.2.1.size]
      have HROW := hide (hrow)
      have HSZ := hide (hsz)
      have HZS : Hid (zs.size = cs.size) := hzs.trans hfill.2.1.size.symm
      have HONE := hide (hfill.2.1.one)
      obtain ⟨W4, HW4⟩ : ∃ W4, Hid (W4 = (wr0.alloc (.cells zs 47)).setRow wr0.heap.size cs) := ⟨_, rfl⟩
      have htw := twice_of (zs := zs) hfill
      rw [← HW4.out] at htw
      have hb4 : Below w.heap.size w W4 := htw.fill.2.2.2.1
      obtain ⟨w5, hcp, hrow5, hb5⟩ := run_copy_made W4 a0 len0 cap0 len0 bs hl0 (hb.later hb4) (Nat.le_refl _)
      have hown5 := owns_spliced (B := W4.heap.size) (Nat.le_refl _) (by rw [length_bytesV, hl0]) (Nat.le_refl _) (by omega) hrow5
      have hz5 := hb5.size
      have hz45 : W4.heap.size < w5.heap.size := (Array.getElem?_eq_some_iff.1 hrow5).1
      have hla := htw.later (W' := w5) (by rw [← htw.size]; exact hb5)
      have HTW := hide (htw)
      have HLA := hide (hla)
      have HOWN5 := hide (hown5)
      have HB5 := hide (hb5)
      clear hrow hsz hzs hfill htw hrow5 hown5 hla hb5
      go_wp2_with (first
        | (refine wpList_load_row rfl 47 (.tmp 59) rfl (w.heap.size + 1 + 1) (by rfl) 47 cs (0, 0) _ HROW.out Yba.underlying47 rfl HSZ.out ?_)
        | (refine wpList_store_row rfl 47 (.tmp 13) (.tmp 60) rfl wr0.heap.size cs (by rfl) (by rfl) 47 zs (heap_alloc_new wr0 _) HSZ.out HZS.out HONE.out ?_; rw [← HW4.out])
        | (at_make; go_must (refine wpList_make_len W4 rfl _ _ 22 rfl 5 Yba.underlying22 info5 _ _ len0 len0 (by rfl) (by rfl) (by omega) (by omega) (by omega) (by omega) ?_)))
      have hown5 := HOWN5.out
      obtain ⟨hfill5, htwin5⟩ := HLA.out
      obtain ⟨f1, f2, f3, f4, f5, f6⟩ := hfill5
      have p0 : w5.cell? ⟨w.heap.size + 1 + 1, 0, none⟩ = some (.pointer (some ⟨w.heap.size + 1, 0, none⟩)) := (Joins.cell_of_block f1 _).trans f2.head
      have p1 : ∀ i t, i < 4 → t < 256 → w5.cell? ⟨w.heap.size + 1 + 1, 1 + 256 * i + t, none⟩ = some (.int .i16 ((nums c i / 2 ^ (12 * t) % 4096 : Nat) : Int)) := fun i t hi ht => by
        have e1 := f3 (256 * i + t) (by omega)
        rw [show (256 * i + t) / 256 = i by omega, show (256 * i + t) % 256 = t by omega, ← Nat.add_assoc, coefN_eq, ← nums_digit c i t ht] at e1
        exact (Joins.cell_of_block f1 _).trans e1
      have p2 : ∀ j, j < 32 → w5.cell? ⟨w.heap.size + 1 + 1, 1025 + j, none⟩ = some (.int .u8 (rho.getD j 0)) := fun j hj => (Joins.cell_of_block f1 _).trans (f2.rho j hj)
      have hfar := HTW.out.far
      have hs4 := HTW.out.size
      refine (append_any W4.heap.size len0 W4.heap.size len0 (w.heap.size + 1 + 1) (w.heap.size + 1) (sel % 5) (nums c) rho hr _ w5 hown5 hz5 (by omega) (by omega) (by omega) (by omega) p0 f6 p1 p2).mono ?_
      rintro e w6 ⟨g6, cap6, rfl, hown6, hgrow6⟩
      have hb46 : Below W4.heap.size W4 w6 := HB5.out.trans (hgrow6.below hz5 hown5)
      have hck := fun j hj => hgrow6.kept W4.heap.size len0 _ rfl hz45 j hj
      have hbc6 : BytesIn w6 (some ⟨W4.heap.size, 0, none⟩) len0 bs := by
        intro hp
        refine ⟨W4.heap.size, 0, rfl, fun i hi => ?_⟩
        rw [Nat.zero_add, hck i hi, hown5.cellAt i (by omega)]
        simp [bytesV, List.getElem?_eq_getElem (show i < bs.length by omega)]
      rw [← bytesV_append] at hown6
      have hgot6 := owns_in hown6
      have hb06 : Below w.heap.size w w6 := hb4.trans (hb46.mono hb4.size)
      have hb6 : BytesIn w6 a0 len0 bs := hb.later hb06
      have HB46 := hide (hb46)
      have HBC6 := hide (hbc6)
      have HGOT6 := hide (hgot6)
      have HB6 := hide (hb6)
      have HB06 := hide (hb06)
      clear hcp p0 p1 p2 f1 f2 f3 f4 f5 f6 htwin5 hown5 HOWN5 hb46 hbc6 hgot6 hb6 hb06 hck hgrow6 hown6 hz47 HROW HSZ HZS HONE HLA hb4 hz5 hz45
      have hownW := owns_made w6 (len0 + 384 * (sel % 5) + 32) (by omega)
      clear hfar hs4
      go_wp2_with (first
        | (at_make; go_must (refine wpList_make_len w6 rfl _ _ 22 rfl 5 Yba.underlying22 info5 _ _ 0 (len0 + 384 * (sel % 5) + 32) (by rfl) (by rfl) (by omega) (by omega) (by omega) (by omega) ?_))
        | (at_builtin; go_must (refine wpList_app_in _ rfl _ _ 22 rfl w6.heap.size 5 Yba.underlying22 info5 w6.heap.size 0 _ _ (by rfl) hownW a0 len0 cap0 bs (by rfl) hl0 (HB6.out.later ((Below.refl _ _).alloc (Nat.le_refl _) _)) (by omega) (by simp) ?_); intro g7 cap7 w7 hown7 hgrow7))
      have hb67 : Below w6.heap.size w6 w7 := ((Below.refl _ _).alloc (Nat.le_refl _) _).trans (hgrow7.below (by simp) hownW)
      have HB67 := hide hb67
      have HOWN7 := hide hown7
      have hsel5 : sel % 5 < 5 := Nat.mod_lt _ (by omega)
      obtain ⟨k, hk⟩ : ∃ k, k = sel % 5 := ⟨_, rfl⟩
      have HK := hide hk
      rw [← hk] at hsel5
      clear hb67 hown7 hgrow7 hownW hk
      have eK : (sel : Int) % 5 = (k : Int) := by rw [HK.out]; omega
      rw [eK]
      clear eK
      go_loopw [16, 17] (fun v iv wr => ∃ i g cap : Nat, i ≤ k ∧ iv = .int .i64 i ∧ v = .slice (some ⟨g, 0, none⟩) (len0 + 384 * i) cap ∧
          wr.ownsRow w6.heap.size 5 1 (.slice (some ⟨g, 0, none⟩) (len0 + 384 * i) cap) (len0 + 384 * i) (bytesV bs ++ bytesV (packs (nums c) i)) ∧ Below w6.heap.size w6 wr) (fun _ iv _ => (k - intOf iv).toNat)
      case atStart => exact ⟨0, g7, cap7, by omega, rfl, by simp, by simpa [packs, bytesV] using HOWN7.out, HB67.out⟩
      case round =>
        obtain ⟨i, g, cap, hi, rfl, rfl, hown8, hb8⟩ := hrel
        by_cases hik : i < k
        · have hdi : decide ((i : Int) < (k : Int)) = true := by simp; omega
          have HOWN8 := hide hown8
          have HB8 := hide hb8
          clear hown8 hb8
          go_wp2_with fail
          go_loopw [16, 18] (fun v mv wr => ∃ m g cap : Nat, m ≤ 128 ∧ mv = .int .i64 m ∧ v = .slice (some ⟨g, 0, none⟩) (len0 + 384 * i + 3 * m) cap ∧
            wr.ownsRow w6.heap.size 5 1 (.slice (some ⟨g, 0, none⟩) (len0 + 384 * i + 3 * m) cap) (len0 + 384 * i + 3 * m) (bytesV bs ++ bytesV (packs (nums c) i ++ leB (nums c i) (3 * m))) ∧ Below w6.heap.size w6 wr) (fun _ mv _ => (128 - intOf mv).toNat)
          case atStart => exact ⟨0, g, cap, by omega, rfl, by simp, by simpa [leB] using HOWN8.out, HB8.out⟩
          case round =>
            obtain ⟨m, g, cap, hm, rfl, rfl, hown9, hb9⟩ := hrel
            by_cases hm8 : m < 128
            · have hb09 := HB06.out.trans (hb9.mono HB06.out.size)
              have HCW := hide (HC.out _ hb09)
              have HOWN9 := hide hown9
              have HB9 := hide hb9
              have hz9 := hb9.size
              clear hown9 hb9 hb09
              go_wp2_with fail
              refine (coef_at a1 len1 cap1 i (2 * m) _ (by simp) c _ hl1 hn1 (by omega) (by omega) HCW.out HCB.out).mono ?_
              rintro e w9 ⟨rfl, rfl⟩
              go_wp2_with fail
              refine (coef_at a1 len1 cap1 i (2 * m + 1) _ (by simp) c _ hl1 hn1 (by omega) (by omega) HCW.out HCB.out).mono ?_
              rintro e w10 ⟨rfl, rfl⟩
              have hx := coefN_lt c i (2 * m)
              have hy := coefN_lt c i (2 * m + 1)
              have HL3 := hide (leB_three (nums c i) m _ _ (nums_digit c i (2 * m) (by omega)) (nums_digit c i (2 * m + 1) (by omega)))
              generalize coefN c i (2 * m) = x at *
              generalize coefN c i (2 * m + 1) = y at *
              obtain ⟨b1, b2, b3⟩ := three_facts x y hx hy
              go_wp2_with (at_builtin; go_must (refine wpList_app w10 rfl _ _ 22 rfl 5 Yba.underlying22 info5 w6.heap.size g cap _ _ (by rfl) HOWN9.out w10.heap.size rfl 3 _ (by rfl) (by rfl) (by simp [Value.oneCell']) (by omega) (by omega) (by omega) ?_); intro g11 cap11 w11 hown11 hgrow11)
              have HR11 := hide (owns_three HL3.out hown11 (by omega) (by omega) (by omega))
              have HBB := hide (HB9.out.trans (hgrow11.below hz9 HOWN9.out))
              clear hown11 hgrow11
              go_wp2_with fail
              go_roundw
              case rel => exact ⟨m + 1, g11, cap11, by omega, by simp, rfl, HR11.out, HBB.out⟩
              case measure => simp [intOf]; omega
            · obtain rfl : m = 128 := by omega
              have HOWN9 := hide hown9
              have HB9 := hide hb9
              clear hown9 hb9
              go_wp2_with fail
              go_roundw
              case rel =>
                refine ⟨i + 1, g, cap, by omega, by simp, by rw [Nat.mul_add, ← Nat.add_assoc], ?_, HB9.out⟩
                rw [packs, Nat.mul_add, ← Nat.add_assoc]
                exact HOWN9.out
              case measure => simp [intOf]; omega
        · obtain rfl : i = k := by omega
          have hs4 := HTW.out.size
          have hb48 := HB46.out.trans (hb8.mono HB46.out.size)
          obtain ⟨q1, q2⟩ := HTW.out.later (by rw [← hs4]; exact hb48)
          have HRC := hide (row_cells q1.2.2.2.2.1)
          have HOWN8 := hide hown8
          have HB8 := hide hb8
          have hz8 := hb8.size
          clear hown8 hb8 hb48 q1 q2 hs4
          go_wp2_with (at_builtin; go_must (refine wpList_app_row wr rfl _ _ 22 rfl w6.heap.size 5 Yba.underlying22 info5 g _ cap _ (by rfl) HOWN8.out ⟨w.heap.size, 0, none⟩ 32 32 (bytesV rho) (by rfl) (by rw [length_bytesV, hr]) HRC.out (ints_oneCell .u8 rho) (by omega) (by omega) (by omega) ?_); intro g12 cap12 w12 hown12 hgrow12)
          have hb612 : Below w6.heap.size w6 w12 := HB8.out.trans (hgrow12.below hz8 HOWN8.out)
          have hs4 := HTW.out.size
          have hb412 := HB46.out.trans (hb612.mono HB46.out.size)
          obtain ⟨q1, q2⟩ := HTW.out.later (by rw [← hs4]; exact hb412)
          have hb012 : Below w.heap.size w w12 := q1.2.2.2.1
          have r1 : BytesIn w12 (some ⟨g6, 0, none⟩) (len0 + 384 * i + 32) (bs ++ (packs (nums c) i ++ rho)) := by
            rw [HK.out]; exact HGOT6.out.later hb612
          have r2 : BytesIn w12 (some ⟨g12, 0, none⟩) (len0 + 384 * i + 32) (bs ++ (packs (nums c) i ++ rho)) := by
            refine owns_in (B := w6.heap.size) (cap := cap12) ?_
            rw [bytesV_append, bytesV_append, ← List.append_assoc]
            exact hown12
          have r3 : BytesIn w12 (some ⟨W4.heap.size, 0, none⟩) len0 bs := HBC6.out.later hb612
          have r4 : BytesIn w12 a0 len0 bs := HB6.out.later hb612
          have hll : (bs ++ (packs (nums c) i ++ rho)).length = len0 + 384 * i + 32 := by
            rw [List.length_append, List.length_append, length_packs, hl0, hr, Nat.add_assoc]
          have Q1 : Hid (w12.heap[w.heap.size + 1 + 1]? = some (.cells cs 47 (0, 0))) := q1.1
          have Q2 := hide q2
          have t3 : w12.cell? ⟨w.heap.size + 1 + 1, 0, none⟩ = some (.pointer (some ⟨w.heap.size + 1, 0, none⟩)) := (Joins.cell_of_block q1.1 _).trans q1.2.1.head
          have t4 : w12.cell? ⟨w.heap.size + 1, 2, none⟩ = some (.int .i64 i) := by rw [HK.out]; exact q1.2.2.2.2.2
          have HI47 : Hid ((Yba.prog.info? 47).map (·.size) = some cs.size) := by show _ = _; rw [size47, q1.2.1.size]
          have heq : ∀ W, (Op.equalIn 10000 47 (.agg cs) (.agg cs)).run Yba.prog W = .ok true W := eq47 q1.2.1
          have hg47 := guard47
          have HEND := hide hb012
          have R1 := hide r1
          have R2 := hide r2
          have R3 := hide r3
          have R4 := hide r4
          have HLL := hide hll
          clear hb612 hs4 hb412 q1 q2 hb012 r1 r2 r3 r4 hown12 hgrow12 HOWN8 HB8 HRC HB67 HOWN7 hll
          have hw1 : IntKind.i64.wrap (384 * (i : Int)) = 384 * (i : Int) := wrap_small _ (by omega) (by omega)
          have hw2 : IntKind.i64.wrap ((len0 : Int) + 384 * (i : Int)) = (len0 : Int) + 384 * (i : Int) := wrap_small _ (by omega) (by omega)
          have hw3 : IntKind.i64.wrap ((len0 : Int) + 384 * (i : Int) + 32) = (len0 : Int) + 384 * (i : Int) + 32 := wrap_small _ (by omega) (by omega)
          rw [← HK.out]
          refine wp_region_quiet_lit (by kernel_rfl) (by kernel_rfl) ?_
          repeat (first
            | (go_big_quiet_want; refine quiet_load_row 47 (.tmp 141) rfl (w.heap.size + 1 + 1) (by rfl) 47 cs (0, 0) _ Q1.out Yba.underlying47 rfl HI47.out ?_; simp only [Act.put, List.setIfInBounds_toArray, List.set_cons_zero, List.set_cons_succ]; go_big_quiet_on)
            | (go_big_quiet_want; refine quiet_load_row 47 (.tmp 13) rfl wr0.heap.size (by rfl) 47 cs (0, 0) _ Q2.out Yba.underlying47 rfl HI47.out ?_; simp only [Act.put, List.setIfInBounds_toArray, List.set_cons_zero, List.set_cons_succ]; go_big_quiet_on)
            | go_big_quiet_step (first
                | (refine (equal_same (some ⟨g6, 0, none⟩) (some ⟨g12, 0, none⟩) (len0 + 384 * i + 32) cap6 cap12 _ _ HLL.out (by exact R1.out) (by exact R2.out)).mono ?_; rintro e w13 ⟨rfl, rfl⟩; exact ⟨rfl, _, rfl⟩)
                | (refine (equal_same (some ⟨W4.heap.size, 0, none⟩) a0 len0 len0 cap0 bs _ hl0 (by exact R3.out) (by exact R4.out)).mono ?_; rintro e w14 ⟨rfl, rfl⟩; exact ⟨rfl, _, rfl⟩)))
          refine wpQuiet_nil ?_
          intro _ hw'
          obtain ⟨nq, hw''⟩ := hw'
          subst hw''
          go_wp2_with fail
          go_ret
          exact ⟨rfl, HEND.out.trans (Joins.below_draws _ _ _)⟩
end Go.Proofs.Ybulkdizg
