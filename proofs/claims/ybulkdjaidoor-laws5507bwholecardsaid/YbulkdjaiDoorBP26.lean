import Derived.Test.YbulkdjaiDoorBP35
namespace Go.Proofs.YbulkdjaiDoor.B
open Go.RowKit

def sumL (Ln : Nat → Nat) : Nat → Nat
  | 0 => 0
  | k + 1 => sumL Ln k + Ln k
theorem sumL_mono (Ln : Nat → Nat) : ∀ {a b : Nat}, a ≤ b → sumL Ln a ≤ sumL Ln b
  | a, 0, h => by
    obtain rfl : a = 0 := by omega
    exact Nat.le_refl _
  | a, b + 1, h => by
    by_cases e : a = b + 1
    · subst e; exact Nat.le_refl _
    · have := sumL_mono Ln (a := a) (b := b) (by omega)
      rw [sumL]; omega

/-- The items as they came in: item j lies at A j, has Ln j bytes, Bs j. -/
structure Items (w : World) (a9 : Option Addr) (len9 : Nat) (A : Nat → Option Addr) (Ln Cp : Nat → Nat) (Bs : Nat → List Int) : Prop where
  at' : 0 < len9 → ∃ b o, a9 = some ⟨b, o, none⟩ ∧ ∀ j, j < len9 → w.cell? ⟨b, o + j, none⟩ = some (.slice (A j) (Ln j) (Cp j))
  len : ∀ j, j < len9 → (Bs j).length = Ln j
  byt : ∀ j, j < len9 → Byt (Bs j)
  cap : ∀ j, j < len9 → Ln j ≤ Cp j
  inn : ∀ j, j < len9 → BytesIn w (A j) (Ln j) (Bs j)

set_option maxHeartbeats 4000000 in
set_option maxRecDepth 100000 in
theorem piece26 {c0 c1 c2 c3 c4 c5 c6 c7 c8 c12 c13 c14 c15 c16 c17 c18 c19 c20 c21 c22 c23 c24 c25 c26 c27 c29 c30 c31 c32 c33 c34 c35 c36 c37 c38 c39 c40 c41 c42 c43 c44 c45 c46 c47 c48 c49 c50 c51 c52 c53 c54 c55 c56 c57 c58 c59 c60 c61 c62 c63 c64 c65 c66 c67 c68 c69 c70 c71 c72 c73 c74 c75 c76 c77 c78 c79 c80 c81 c82 c83 c84 c85 c86 c87 c88 c89 c90 c91 c92 c93 c94 c95 c96 c97 c98 c99 c100 c101 c102 c103 c104 c105 c106 c107 c108 c109 c110 c111 c112 c113 c114 c115 c116 c117 c118 c119 c120 c121 c122 c123 c124 c125 c126 c127 c128 c129 c130 c131 c132 c133 c134 c135 c136 c137 c138 c139 c140 c141 c142 c143 c144 c145 c146 c147 c148 c149 c150 c151 c152 c153 c154 c155 c156 c157 c158 c159 c160 c161 c162 c163 c164 c165 c166 c167 c168 c169 c170 c171 c172 c173 c174 c175 c176 c177 c178 c179 c180 c181 c182 c183 c184 c185 c186 c187 c188 c189 c190 c191 c192 c193 c194 c195 c196 c197 c198 c199 c200 c201 c202 c203 c204 c205 c206 c207 c208 c209 c210 c211 c212 c213 c214 c215 c216 c217 c218 c219 c220 c221 c222 c223 c224 c225 c226 c227 c228 c229 c230 c231 c232 c233 c234 c235 c236 c237 c238 c239 c240 c241 c242 c243 c244 c245 c246 c247 c248 c249 c250 c251 c252 c253 c254 c255 c256 c257 c258 c259 c260 c261 c262 c263 c264 c265 c266 c267 c268 c269 c270 c271 c272 c273 c274 c275 c276 c277 c278 c279 c280 c281 c282 c283 c284 c285 c286 c287 c288 c289 c290 c291 c292 c293 c294 c295 c296 c297 c298 c299 c300 c301 c302 c303 c304 c305 c306 c307 c308 c309 c310 c311 c312 c313 c314 c315 c316 c317 c318 c319 c320 c321 c322 c323 c324 c325 c326 c327 c328 c329 c330 c331 c332 c333 c334 c335 c336 c337 c338 c339 c340 c341 c342 c343 c344 c345 c346 c347 c348 c349 c350 c351 c352 c353 c354 c355 c356 c357 c358 c359 c360 c361 c362 c363 c364 c365 c366 c367 c368 c369 c370 c371 c372 c373 c374 c375 c376 c377 c378 c379 c380 c381 c382 c383 c384 c385 c386 c387 c388 c389 c390 c391 c392 c393 c394 c395 c396 c397 c398 c399 c400 c401 c402 c403 c404 c405 c406 c407 c408 c409 : Value} (w0 w : World) (a9 a10 : Option Addr) (len9 cap9 len10 cap10 ct : Nat) (t10 : List Int) (A : Nat → Option Addr) (Ln Cp : Nat → Nat) (Bs : Nat → List Int) (v28 : Value) (te : TypeId) (ve : Value) (hEq : ∀ W, (binOp .eql 33 (.iface te ve) (.iface te ve)).run Ybad.prog W = .ok (.bool true) W)
    (hE : w0.cell? ⟨0, 0, none⟩ = some (.iface te ve)) (hct : ct < 65536) (h10 : BytesIn w0 a10 len10 t10) (hl10 : t10.length = len10) (hb10 : Byt t10) (hm10 : len10 ≤ 1048576) (hit : Items w0 a9 len9 A Ln Cp Bs) (hsum : len9 + sumL Ln len9 ≤ 1048576) (hO : Own w0 139 v28 w) :
    Code.wp Ybad.prog ((Ybad.f3.body.bind (fromR 26)).getD .skip) (bodyPost Ybad.prog Ybad.f3 (Good w0)) ⟨List.toArray (c0 :: c1 :: c2 :: c3 :: c4 :: c5 :: c6 :: c7 :: c8 :: (.slice a9 len9 cap9) :: (.slice a10 len10 cap10) :: (.int .u16 ct) :: c12 :: c13 :: c14 :: c15 :: c16 :: c17 :: c18 :: c19 :: c20 :: c21 :: c22 :: c23 :: c24 :: c25 :: c26 :: c27 :: (v28) :: c29 :: c30 :: c31 :: c32 :: c33 :: c34 :: c35 :: c36 :: c37 :: c38 :: c39 :: c40 :: c41 :: c42 :: c43 :: c44 :: c45 :: c46 :: c47 :: c48 :: c49 :: c50 :: c51 :: c52 :: c53 :: c54 :: c55 :: c56 :: c57 :: c58 :: c59 :: c60 :: c61 :: c62 :: c63 :: c64 :: c65 :: c66 :: c67 :: c68 :: c69 :: c70 :: c71 :: c72 :: c73 :: c74 :: c75 :: c76 :: c77 :: c78 :: c79 :: c80 :: c81 :: c82 :: c83 :: c84 :: c85 :: c86 :: c87 :: c88 :: c89 :: c90 :: c91 :: c92 :: c93 :: c94 :: c95 :: c96 :: c97 :: c98 :: c99 :: c100 :: c101 :: c102 :: c103 :: c104 :: c105 :: c106 :: c107 :: c108 :: c109 :: c110 :: c111 :: c112 :: c113 :: c114 :: c115 :: c116 :: c117 :: c118 :: c119 :: c120 :: c121 :: c122 :: c123 :: c124 :: c125 :: c126 :: c127 :: c128 :: c129 :: c130 :: c131 :: c132 :: c133 :: c134 :: c135 :: c136 :: c137 :: c138 :: c139 :: c140 :: c141 :: c142 :: c143 :: c144 :: c145 :: c146 :: c147 :: c148 :: c149 :: c150 :: c151 :: c152 :: c153 :: c154 :: c155 :: c156 :: c157 :: c158 :: c159 :: c160 :: c161 :: c162 :: c163 :: c164 :: c165 :: c166 :: c167 :: c168 :: c169 :: c170 :: c171 :: c172 :: c173 :: c174 :: c175 :: c176 :: c177 :: c178 :: c179 :: c180 :: c181 :: c182 :: c183 :: c184 :: c185 :: c186 :: c187 :: c188 :: c189 :: c190 :: c191 :: c192 :: c193 :: c194 :: c195 :: c196 :: c197 :: c198 :: c199 :: c200 :: c201 :: c202 :: c203 :: c204 :: c205 :: c206 :: c207 :: c208 :: c209 :: c210 :: c211 :: c212 :: c213 :: c214 :: c215 :: c216 :: c217 :: c218 :: c219 :: c220 :: c221 :: c222 :: c223 :: c224 :: c225 :: c226 :: c227 :: c228 :: c229 :: c230 :: c231 :: c232 :: c233 :: c234 :: c235 :: c236 :: c237 :: c238 :: c239 :: c240 :: c241 :: c242 :: c243 :: c244 :: c245 :: c246 :: c247 :: c248 :: c249 :: c250 :: c251 :: c252 :: c253 :: c254 :: c255 :: c256 :: c257 :: c258 :: c259 :: c260 :: c261 :: c262 :: c263 :: c264 :: c265 :: c266 :: c267 :: c268 :: c269 :: c270 :: c271 :: c272 :: c273 :: c274 :: c275 :: c276 :: c277 :: c278 :: c279 :: c280 :: c281 :: c282 :: c283 :: c284 :: c285 :: c286 :: c287 :: c288 :: c289 :: c290 :: c291 :: c292 :: c293 :: c294 :: c295 :: c296 :: c297 :: c298 :: c299 :: c300 :: c301 :: c302 :: c303 :: c304 :: c305 :: c306 :: c307 :: c308 :: c309 :: c310 :: c311 :: c312 :: c313 :: c314 :: c315 :: c316 :: c317 :: c318 :: c319 :: c320 :: c321 :: c322 :: c323 :: c324 :: c325 :: c326 :: c327 :: c328 :: c329 :: c330 :: c331 :: c332 :: c333 :: c334 :: c335 :: c336 :: c337 :: c338 :: c339 :: c340 :: c341 :: c342 :: c343 :: c344 :: c345 :: c346 :: c347 :: c348 :: c349 :: c350 :: c351 :: c352 :: c353 :: c354 :: c355 :: c356 :: c357 :: c358 :: c359 :: c360 :: c361 :: c362 :: c363 :: c364 :: c365 :: c366 :: c367 :: c368 :: c369 :: c370 :: c371 :: c372 :: c373 :: c374 :: c375 :: c376 :: c377 :: c378 :: c379 :: c380 :: c381 :: c382 :: c383 :: c384 :: c385 :: c386 :: c387 :: c388 :: c389 :: c390 :: c391 :: c392 :: c393 :: c394 :: c395 :: c396 :: c397 :: c398 :: c399 :: c400 :: c401 :: c402 :: c403 :: c404 :: c405 :: c406 :: c407 :: c408 :: c409 :: []), []⟩ w := by
  have hle20 : len9 ≤ 1048576 := by omega
  have HIT := hide hit
  have HEQ := hide hEq
  have H10 := hide h10
  have HE := hide hE
  have HB10 := hide hb10
  have HO := hide hO
  have HSUM := hide hsum
  clear hEq h10 hE hb10 hO hit hsum
  show Code.wp _ (Code.seq _ _) _ _ _
  refine wp_seq_k ?_
  intro K1 hK1
  have HK1 := hide hK1
  clear hK1
  go_wp2_with fail
  go_loopw [28, 29] (fun v iv wr => ∃ i : Nat, i ≤ len9 ∧ iv = .int .i64 i ∧ Own w0 (139 + 2 * i + sumL Ln i) v wr) (fun _ iv _ => (len9 - intOf iv).toNat)
  case atStart => exact ⟨0, by omega, rfl, HO.out⟩
  case round =>
    obtain ⟨i, hi, rfl, n, g, cap, l, rfl, hn, hown, hy, hbel⟩ := hrel
    have hz := hbel.size
    by_cases h : i < len9
    · obtain ⟨b9, o9, rfl, hc9⟩ := HIT.out.at' (by omega)
      have k9 := hc9 i h
      have hcell := (hbel.cell (p := ⟨b9, o9 + i, none⟩) (block_lt_of_cell k9)).trans k9
      have hlc := HIT.out.cap i h
      have hbl := HIT.out.len i h
      have hby := HIT.out.byt i h
      have hin := (HIT.out.inn i h)
      have hle9 := sumL_mono Ln (show i + 1 ≤ len9 by omega)
      have HS : Hid (sumL Ln (i + 1) = sumL Ln i + Ln i) := rfl
      have hsum9 := HSUM.out
      rw [HS.out] at hle9
      have hlnb : Ln i ≤ 1048576 := by omega
      have hnb : n ≤ 4000000 := by omega
      have hd9 : decide ((i : Int) < (len9 : Int)) = true := by simp; omega
      have HNB : Hid (139 + 2 * i + sumL Ln i + 2 + Ln i = 139 + 2 * (i + 1) + sumL Ln (i + 1)) := by show _ = _; rw [HS.out]; omega
      clear k9 hc9 hsum9 hle9
      generalize Ln i = ln at *
      generalize Cp i = cp at *
      generalize A i = ai at *
      generalize Bs i = bi at *
      have hand : bits BinOp.and IntKind.u64 (ln : Int) 65535 = ((ln % 65536 : Nat) : Int) := by
        have h := (bits_nat .u64 64 (by decide) wraps_u64 ln 65535 (by omega) (by omega)).1
        rw [show ln &&& 65535 = ln % 65536 from Nat.and_two_pow_sub_one_eq_mod ln 16] at h
        exact h
      go_wp2_with fail
      refine (put_any w0.heap.size n g cap 2 (by omega) _ ((ln : Int) % 65536) (by omega) (by omega) wr hown hz (by omega)).mono ?_
      rintro e w2 ⟨g2, cap2, rfl, hown2, hgrow2⟩
      rw [← bytesV_append] at hown2
      have hbel2 := hbel.trans (hgrow2.below hz hown)
      have hz2 := hbel2.size
      have hy2 := hy.append (Byt.be ((ln : Int) % 65536) 2)
      clear hgrow2 hown hbel hy hz hand hcell
      generalize l ++ be ((ln : Int) % 65536) 2 = l2 at *
      by_cases hln : 0 < ln
      · have hdl : decide (0 < (ln : Int)) = true := by simp; omega
        obtain ⟨bb, oo, rfl, hcb⟩ := hin hln
        have kb := hcb 0 hln
        rw [Nat.add_zero] at kb
        have hcb0 := (hbel2.cell (p := ⟨bb, oo, none⟩) (block_lt_of_cell kb)).trans kb
        have hbx := hby.getD 0
        have hrest : BytesIn w0 (if cp = 1 then some ⟨bb, oo, none⟩ else some ⟨bb, oo + 1, none⟩) (ln - 1) (bi.drop 1) := by
          intro hp
          refine ⟨bb, oo + 1, if_neg (by omega), fun j hj => ?_⟩
          have e := hcb (j + 1) (by omega)
          rw [show oo + 1 + j = oo + (j + 1) by omega, e]
          congr 2
          simp [List.getD_eq_getElem?_getD]
        have HREST := hide hrest
        have hyr : Byt (bi.drop 1) := fun v hv => hby v (List.mem_of_mem_drop hv)
        clear hcb kb hrest
        generalize bi.getD 0 0 = x at *
        obtain ⟨x, rfl⟩ := Int.eq_ofNat_of_zero_le hbx.1
        have i1 : (1 : Int) ≤ (ln : Int) := by omega
        have i2 : (ln : Int) ≤ (cp : Int) := by omega
        have i3 : (1 : Int) ≤ (cp : Int) := by omega
        go_wp2_with fail
        refine (ktab_any x _).mono ?_
        rintro e w3 ⟨⟨kv, rfl, kv0, kv1⟩, rfl⟩
        go_upto_region 34 with (at_builtin; go_must (refine wpList_app w3 rfl _ _ 25 rfl 5 Ybad.underlying25 info5 w0.heap.size g2 cap2 _ _ (by rfl) hown2 w3.heap.size rfl 1 _ (by rfl) (by rfl) (by simp [Value.oneCell']) (by omega) (by omega) (by omega) ?_); intro g4 cap4 w4 hown4 hgrow4)
        have hbel4 := hbel2.trans (hgrow4.below hz2 hown2)
        have hz4 := hbel4.size
        have hown4' : w4.ownsRow w0.heap.size 5 1 (.slice (some ⟨g4, 0, none⟩) (n + 2 + 1) cap4) (n + 2 + 1) (bytesV (l2 ++ [kv])) := by rw [bytesV_append]; exact hown4
        have hy4 := hy2.append (Byt.one kv0 kv1)
        have hr4 := HREST.out.later hbel4
        clear hown4 hgrow4 hown2 hbel2 hy2 hz2 hcb0 HREST
        have HOWN4 := hide hown4'
        have HY4 := hide hy4
        have HBEL4 := hide hbel4
        have HYR := hide hyr
        clear hown4' hy4 hbel4 hyr hby hin
        by_cases hcp : cp = 1
        · rw [if_pos hcp] at hr4
          have HR4 := hide hr4
          clear hr4
          go_wp2_with (at_builtin; go_must (refine wpList_app_in w4 rfl _ _ 25 rfl w0.heap.size 5 Ybad.underlying25 info5 g4 _ cap4 _ (by rfl) HOWN4.out (some ⟨bb, oo, none⟩) (ln - 1) _ (bi.drop 1) (by rfl) (by simp; omega) HR4.out (by omega) (by omega) ?_); intro g5 cap5 w5 hown5 hgrow5)
          have HO5 := hide (show Own w0 (139 + 2 * (i + 1) + sumL Ln (i + 1)) (.slice (some ⟨g5, 0, none⟩) (n + 2 + 1 + (ln - 1)) cap5) w5 from ⟨_, g5, cap5, (l2 ++ [kv]) ++ bi.drop 1, rfl, by rw [← HNB.out]; omega, by rw [bytesV_append]; exact hown5, HY4.out.append HYR.out, HBEL4.out.trans (hgrow5.below hz4 HOWN4.out)⟩)
          clear hown5 hgrow5
          go_wp2_with fail
          go_roundw
          case rel => exact ⟨i + 1, by omega, by simp, HO5.out⟩
          case measure => simp [intOf]; omega
        · rw [if_neg hcp] at hr4
          have HR4 := hide hr4
          clear hr4
          go_wp2_with (at_builtin; go_must (refine wpList_app_in w4 rfl _ _ 25 rfl w0.heap.size 5 Ybad.underlying25 info5 g4 _ cap4 _ (by rfl) HOWN4.out (some ⟨bb, oo + 1, none⟩) (ln - 1) _ (bi.drop 1) (by rfl) (by simp; omega) HR4.out (by omega) (by omega) ?_); intro g5 cap5 w5 hown5 hgrow5)
          have HO5 := hide (show Own w0 (139 + 2 * (i + 1) + sumL Ln (i + 1)) (.slice (some ⟨g5, 0, none⟩) (n + 2 + 1 + (ln - 1)) cap5) w5 from ⟨_, g5, cap5, (l2 ++ [kv]) ++ bi.drop 1, rfl, by rw [← HNB.out]; omega, by rw [bytesV_append]; exact hown5, HY4.out.append HYR.out, HBEL4.out.trans (hgrow5.below hz4 HOWN4.out)⟩)
          clear hown5 hgrow5
          go_wp2_with fail
          go_roundw
          case rel => exact ⟨i + 1, by omega, by simp, HO5.out⟩
          case measure => simp [intOf]; omega
      · have hdl : decide (0 < (ln : Int)) = false := by simp; omega
        have HO5 := hide (show Own w0 (139 + 2 * (i + 1) + sumL Ln (i + 1)) (.slice (some ⟨g2, 0, none⟩) (n + 2) cap2) w2 from ⟨_, g2, cap2, l2, rfl, by rw [← HNB.out]; omega, hown2, hy2, hbel2⟩)
        clear hown2 hy2 hbel2 hin hby
        go_wp2_with fail
        go_roundw
        case rel => exact ⟨i + 1, by omega, by simp, HO5.out⟩
        case measure => simp [intOf]; omega
    · obtain rfl : i = len9 := by omega
      have hnb : n ≤ 4000000 := by have := HSUM.out; omega
      have HOWN := hide (show Own w0 4000000 (.slice (some ⟨g, 0, none⟩) n cap) wr from ⟨n, g, cap, l, rfl, hnb, hown, hy, hbel⟩)
      clear hown hy hbel
      go_wp2_with fail
      exact HK1.out _ _ (piece35 w0 wr a10 len10 cap10 ct t10 _ te ve HEQ.out HE.out hct H10.out hl10 HB10.out hm10 HOWN.out)
end Go.Proofs.YbulkdjaiDoor.B
