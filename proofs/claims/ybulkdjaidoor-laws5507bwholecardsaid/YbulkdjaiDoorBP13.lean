import Derived.Test.YbulkdjaiDoorBP26
namespace Go.Proofs.YbulkdjaiDoor.B
open Go.RowKit

set_option maxHeartbeats 4000000 in
set_option maxRecDepth 100000 in
theorem piece13 {c0 c12 c13 c14 c15 c16 c17 c18 c19 c20 c21 c22 c23 c24 c25 c26 c28 c29 c30 c31 c32 c33 c34 c35 c36 c37 c38 c39 c40 c41 c42 c43 c44 c45 c46 c47 c48 c49 c50 c51 c52 c53 c54 c55 c56 c57 c58 c59 c60 c61 c62 c63 c64 c65 c66 c67 c68 c69 c70 c71 c72 c73 c74 c75 c76 c77 c78 c79 c80 c81 c82 c83 c84 c85 c86 c87 c88 c89 c90 c91 c92 c93 c94 c95 c96 c97 c98 c99 c100 c101 c102 c103 c104 c105 c106 c107 c108 c109 c110 c111 c112 c113 c114 c115 c116 c117 c118 c119 c120 c121 c122 c123 c124 c125 c126 c127 c128 c129 c130 c131 c132 c133 c134 c135 c136 c137 c138 c139 c140 c141 c142 c143 c144 c145 c146 c147 c148 c149 c150 c151 c152 c153 c154 c155 c156 c157 c158 c159 c160 c161 c162 c163 c164 c165 c166 c167 c168 c169 c170 c171 c172 c173 c174 c175 c176 c177 c178 c179 c180 c181 c182 c183 c184 c185 c186 c187 c188 c189 c190 c191 c192 c193 c194 c195 c196 c197 c198 c199 c200 c201 c202 c203 c204 c205 c206 c207 c208 c209 c210 c211 c212 c213 c214 c215 c216 c217 c218 c219 c220 c221 c222 c223 c224 c225 c226 c227 c228 c229 c230 c231 c232 c233 c234 c235 c236 c237 c238 c239 c240 c241 c242 c243 c244 c245 c246 c247 c248 c249 c250 c251 c252 c253 c254 c255 c256 c257 c258 c259 c260 c261 c262 c263 c264 c265 c266 c267 c268 c269 c270 c271 c272 c273 c274 c275 c276 c277 c278 c279 c280 c281 c282 c283 c284 c285 c286 c287 c288 c289 c290 c291 c292 c293 c294 c295 c296 c297 c298 c299 c300 c301 c302 c303 c304 c305 c306 c307 c308 c309 c310 c311 c312 c313 c314 c315 c316 c317 c318 c319 c320 c321 c322 c323 c324 c325 c326 c327 c328 c329 c330 c331 c332 c333 c334 c335 c336 c337 c338 c339 c340 c341 c342 c343 c344 c345 c346 c347 c348 c349 c350 c351 c352 c353 c354 c355 c356 c357 c358 c359 c360 c361 c362 c363 c364 c365 c366 c367 c368 c369 c370 c371 c372 c373 c374 c375 c376 c377 c378 c379 c380 c381 c382 c383 c384 c385 c386 c387 c388 c389 c390 c391 c392 c393 c394 c395 c396 c397 c398 c399 c400 c401 c402 c403 c404 c405 c406 c407 c408 c409 : Value} (w : World) (k0 vw ep rp sy le pt ps ct : Nat) (a8 a9 a10 : Option Addr) (len8 cap8 len9 cap9 len10 cap10 : Nat) (f8 t10 : List Int) (A : Nat → Option Addr) (Ln Cp : Nat → Nat) (Bs : Nat → List Int) (te : TypeId) (ve : Value) (hEq : ∀ W, (binOp .eql 33 (.iface te ve) (.iface te ve)).run Ybad.prog W = .ok (.bool true) W)
    (hE : w.cell? ⟨0, 0, none⟩ = some (.iface te ve)) (hk0 : k0 < 256) (hvw : vw < 18446744073709551616) (hep : ep < 18446744073709551616) (hrp : rp < 65536) (hsy : sy < 18446744073709551616) (hle : le < 18446744073709551616) (hpt : pt < 4294967296) (hps : ps < 4294967296) (hct : ct < 65536)
    (h8 : BytesIn w a8 len8 f8) (hb8 : Byt f8) (h10 : BytesIn w a10 len10 t10) (hl10 : t10.length = len10) (hb10 : Byt t10) (hit : Items w a9 len9 A Ln Cp Bs) (hsum : len8 + len10 + len9 + sumL Ln len9 ≤ 1048576) :
    Code.wp Ybad.prog ((Ybad.f3.body.bind (fromR 13)).getD .skip) (bodyPost Ybad.prog Ybad.f3 (Good w)) ⟨List.toArray (c0 :: (.int .u64 vw) :: (.int .u64 ep) :: (.int .u16 rp) :: (.int .u64 sy) :: (.int .u64 le) :: (.int .u32 pt) :: (.int .u32 ps) :: (.slice a8 len8 cap8) :: (.slice a9 len9 cap9) :: (.slice a10 len10 cap10) :: (.int .u16 ct) :: c12 :: c13 :: c14 :: c15 :: c16 :: c17 :: c18 :: c19 :: c20 :: c21 :: c22 :: c23 :: c24 :: c25 :: c26 :: (.int .u8 k0) :: c28 :: c29 :: c30 :: c31 :: c32 :: c33 :: c34 :: c35 :: c36 :: c37 :: c38 :: c39 :: c40 :: c41 :: c42 :: c43 :: c44 :: c45 :: c46 :: c47 :: c48 :: c49 :: c50 :: c51 :: c52 :: c53 :: c54 :: c55 :: c56 :: c57 :: c58 :: c59 :: c60 :: c61 :: c62 :: c63 :: c64 :: c65 :: c66 :: c67 :: c68 :: c69 :: c70 :: c71 :: c72 :: c73 :: c74 :: c75 :: c76 :: c77 :: c78 :: c79 :: c80 :: c81 :: c82 :: c83 :: c84 :: c85 :: c86 :: c87 :: c88 :: c89 :: c90 :: c91 :: c92 :: c93 :: c94 :: c95 :: c96 :: c97 :: c98 :: c99 :: c100 :: c101 :: c102 :: c103 :: c104 :: c105 :: c106 :: c107 :: c108 :: c109 :: c110 :: c111 :: c112 :: c113 :: c114 :: c115 :: c116 :: c117 :: c118 :: c119 :: c120 :: c121 :: c122 :: c123 :: c124 :: c125 :: c126 :: c127 :: c128 :: c129 :: c130 :: c131 :: c132 :: c133 :: c134 :: c135 :: c136 :: c137 :: c138 :: c139 :: c140 :: c141 :: c142 :: c143 :: c144 :: c145 :: c146 :: c147 :: c148 :: c149 :: c150 :: c151 :: c152 :: c153 :: c154 :: c155 :: c156 :: c157 :: c158 :: c159 :: c160 :: c161 :: c162 :: c163 :: c164 :: c165 :: c166 :: c167 :: c168 :: c169 :: c170 :: c171 :: c172 :: c173 :: c174 :: c175 :: c176 :: c177 :: c178 :: c179 :: c180 :: c181 :: c182 :: c183 :: c184 :: c185 :: c186 :: c187 :: c188 :: c189 :: c190 :: c191 :: c192 :: c193 :: c194 :: c195 :: c196 :: c197 :: c198 :: c199 :: c200 :: c201 :: c202 :: c203 :: c204 :: c205 :: c206 :: c207 :: c208 :: c209 :: c210 :: c211 :: c212 :: c213 :: c214 :: c215 :: c216 :: c217 :: c218 :: c219 :: c220 :: c221 :: c222 :: c223 :: c224 :: c225 :: c226 :: c227 :: c228 :: c229 :: c230 :: c231 :: c232 :: c233 :: c234 :: c235 :: c236 :: c237 :: c238 :: c239 :: c240 :: c241 :: c242 :: c243 :: c244 :: c245 :: c246 :: c247 :: c248 :: c249 :: c250 :: c251 :: c252 :: c253 :: c254 :: c255 :: c256 :: c257 :: c258 :: c259 :: c260 :: c261 :: c262 :: c263 :: c264 :: c265 :: c266 :: c267 :: c268 :: c269 :: c270 :: c271 :: c272 :: c273 :: c274 :: c275 :: c276 :: c277 :: c278 :: c279 :: c280 :: c281 :: c282 :: c283 :: c284 :: c285 :: c286 :: c287 :: c288 :: c289 :: c290 :: c291 :: c292 :: c293 :: c294 :: c295 :: c296 :: c297 :: c298 :: c299 :: c300 :: c301 :: c302 :: c303 :: c304 :: c305 :: c306 :: c307 :: c308 :: c309 :: c310 :: c311 :: c312 :: c313 :: c314 :: c315 :: c316 :: c317 :: c318 :: c319 :: c320 :: c321 :: c322 :: c323 :: c324 :: c325 :: c326 :: c327 :: c328 :: c329 :: c330 :: c331 :: c332 :: c333 :: c334 :: c335 :: c336 :: c337 :: c338 :: c339 :: c340 :: c341 :: c342 :: c343 :: c344 :: c345 :: c346 :: c347 :: c348 :: c349 :: c350 :: c351 :: c352 :: c353 :: c354 :: c355 :: c356 :: c357 :: c358 :: c359 :: c360 :: c361 :: c362 :: c363 :: c364 :: c365 :: c366 :: c367 :: c368 :: c369 :: c370 :: c371 :: c372 :: c373 :: c374 :: c375 :: c376 :: c377 :: c378 :: c379 :: c380 :: c381 :: c382 :: c383 :: c384 :: c385 :: c386 :: c387 :: c388 :: c389 :: c390 :: c391 :: c392 :: c393 :: c394 :: c395 :: c396 :: c397 :: c398 :: c399 :: c400 :: c401 :: c402 :: c403 :: c404 :: c405 :: c406 :: c407 :: c408 :: c409 :: []), []⟩ w := by
  have HIT := hide hit
  have HEQ := hide hEq
  have H8 := hide h8
  have HB8 := hide hb8
  have H10 := hide h10
  have HE := hide hE
  have HB10 := hide hb10
  have HSUM := hide hsum
  have hm8 : len8 ≤ 1048576 := by omega
  clear hEq h10 hE hb10 hit hsum h8 hb8
  show Code.wp _ (Code.seq _ _) _ _ _
  go_wp2_with (at_builtin; go_must (refine _root_.Go.Proofs.YbulkdjaiDoor.wpList_app w rfl _ _ 25 rfl 5 Ybad.underlying25 info5 w.heap.size _ 0 [] (by rfl) (World.ownsRow_nil _ _ _ _) w.heap.size rfl 1 _ (by rfl) (by rfl) (by simp [Value.oneCell']) (by omega) (by omega) (by omega) ?_); intro gb1 cb1 w1 hown1 hgrow1)
  have hb1' := hgrow1.below (Nat.le_refl _) (World.ownsRow_nil _ _ 5 1)
  have hown1 : w1.ownsRow w.heap.size 5 1 (.slice (some ⟨gb1, 0, none⟩) 1 cb1) 1 (bytesV [(k0 : Int)]) := by simpa [bytesV] using hown1
  have hz1 := hb1'.size
  have hy1 : Byt [(k0 : Int)] := Byt.one (by omega) (by omega)
  clear hgrow1
  go_wp2_with fail
  refine (put_any w.heap.size 1 gb1 cb1 8 (by omega) _ (vw : Int) (by omega) (by omega) w1 hown1 hz1 (by omega)).mono ?_
  rintro e w2 ⟨gb2, cb2, rfl, hown2, hgrow2⟩
  rw [← bytesV_append] at hown2
  have hb2' := hb1'.trans (hgrow2.below hz1 hown1)
  have hz2 := hb2'.size
  have hy2 := hy1.append (Byt.be (vw : Int) 8)
  clear hgrow2 hown1 hb1' hy1 hz1
  go_wp2_with fail
  refine (put_any w.heap.size 9 gb2 cb2 8 (by omega) _ (ep : Int) (by omega) (by omega) w2 hown2 hz2 (by omega)).mono ?_
  rintro e w3 ⟨gb3, cb3, rfl, hown3, hgrow3⟩
  rw [← bytesV_append] at hown3
  have hb3' := hb2'.trans (hgrow3.below hz2 hown2)
  have hz3 := hb3'.size
  have hy3 := hy2.append (Byt.be (ep : Int) 8)
  clear hgrow3 hown2 hb2' hy2 hz2
  go_wp2_with fail
  refine (put_any w.heap.size 17 gb3 cb3 2 (by omega) _ (rp : Int) (by omega) (by omega) w3 hown3 hz3 (by omega)).mono ?_
  rintro e w4 ⟨gb4, cb4, rfl, hown4, hgrow4⟩
  rw [← bytesV_append] at hown4
  have hb4' := hb3'.trans (hgrow4.below hz3 hown3)
  have hz4 := hb4'.size
  have hy4 := hy3.append (Byt.be (rp : Int) 2)
  clear hgrow4 hown3 hb3' hy3 hz3
  go_wp2_with fail
  refine (put_any w.heap.size 19 gb4 cb4 8 (by omega) _ (sy : Int) (by omega) (by omega) w4 hown4 hz4 (by omega)).mono ?_
  rintro e w5 ⟨gb5, cb5, rfl, hown5, hgrow5⟩
  rw [← bytesV_append] at hown5
  have hb5' := hb4'.trans (hgrow5.below hz4 hown4)
  have hz5 := hb5'.size
  have hy5 := hy4.append (Byt.be (sy : Int) 8)
  clear hgrow5 hown4 hb4' hy4 hz4
  go_wp2_with fail
  refine (put_any w.heap.size 27 gb5 cb5 8 (by omega) _ (le : Int) (by omega) (by omega) w5 hown5 hz5 (by omega)).mono ?_
  rintro e w6 ⟨gb6, cb6, rfl, hown6, hgrow6⟩
  rw [← bytesV_append] at hown6
  have hb6' := hb5'.trans (hgrow6.below hz5 hown5)
  have hz6 := hb6'.size
  have hy6 := hy5.append (Byt.be (le : Int) 8)
  clear hgrow6 hown5 hb5' hy5 hz5
  go_wp2_with fail
  refine (put_any w.heap.size 35 gb6 cb6 4 (by omega) _ (pt : Int) (by omega) (by omega) w6 hown6 hz6 (by omega)).mono ?_
  rintro e w7 ⟨gb7, cb7, rfl, hown7, hgrow7⟩
  rw [← bytesV_append] at hown7
  have hb7' := hb6'.trans (hgrow7.below hz6 hown6)
  have hz7 := hb7'.size
  have hy7 := hy6.append (Byt.be (pt : Int) 4)
  clear hgrow7 hown6 hb6' hy6 hz6
  go_wp2_with fail
  refine (put_any w.heap.size 39 gb7 cb7 4 (by omega) _ (ps : Int) (by omega) (by omega) w7 hown7 hz7 (by omega)).mono ?_
  rintro e w8 ⟨gb8, cb8, rfl, hown8, hgrow8⟩
  rw [← bytesV_append] at hown8
  have hb8' := hb7'.trans (hgrow8.below hz7 hown7)
  have hz8 := hb8'.size
  have hy8 := hy7.append (Byt.be (ps : Int) 4)
  clear hgrow8 hown7 hb7' hy7 hz7
  generalize hL0 : [(k0 : Int)] ++ be (vw : Int) 8 ++ be (ep : Int) 8 ++ be (rp : Int) 2 ++ be (sy : Int) 8 ++ be (le : Int) 8 ++ be (pt : Int) 4 ++ be (ps : Int) 4 = L0 at *
  clear hL0
  have HOWN := hide (show Own w 139 (.slice (some ⟨gb8, 0, none⟩) 43 cb8) w8 from ⟨43, gb8, cb8, L0, rfl, by omega, hown8, hy8, hb8'⟩)
  clear hown8 hy8 hb8'
  go_upto_block 2 with fail
  rename_i K1 hK1
  have HK1 := hide hK1
  clear hK1
  go_wp2_with fail
  go_loopw [28] (fun v wr => Own w 139 v wr) (fun v _ => 139 - sliceLen v)
  case atStart => exact HOWN.out
  case round =>
    obtain ⟨n, g, cap, l, rfl, hn, hown, hy, hbel⟩ := hrel
    have hz := hbel.size
    by_cases hn9 : n < 139
    · have hdn : decide ((n : Int) < 139) = true := by simp; omega
      by_cases hf : 0 < len8
      · obtain ⟨b8, o8, rfl, hc8⟩ := H8.out hf
        have hm : n % len8 < len8 := Nat.mod_lt _ hf
        have eM : ((n % len8 : Nat) : Int) = (n : Int) % (len8 : Int) := by simp
        have hmI : (n : Int) % (len8 : Int) < (len8 : Int) := by omega
        have hmN : ¬ (n : Int) % (len8 : Int) < 0 := by omega
        have hz8 : ((len8 : Int) == 0) = false := by rw [beq_eq_false_iff_ne]; omega
        have hd8 : decide (0 < (len8 : Int)) = true := by simp; omega
        have k8 := hc8 _ hm
        have hct8 := (hbel.cell (p := ⟨b8, o8 + n % len8, none⟩) (block_lt_of_cell k8)).trans k8
        have hbt := HB8.out.getD (n % len8)
        clear k8 hc8 eM
        generalize f8.getD (n % len8) 0 = x at *
        go_wp2_with (at_builtin; go_must (refine wpList_app wr rfl _ _ 25 rfl 5 Ybad.underlying25 info5 w.heap.size g cap _ _ (by rfl) hown wr.heap.size rfl 1 _ (by rfl) (by rfl) (by simp [Value.oneCell']) (by omega) (by omega) (by omega) ?_); intro g2 cap2 w2 hown2 hgrow2)
        have hO2 : Own w 139 (.slice (some ⟨g2, 0, none⟩) (n + 1) cap2) w2 := ⟨n + 1, g2, cap2, l ++ [x], rfl, by omega, by rw [bytesV_append]; exact hown2, hy.append (Byt.one hbt.1 hbt.2), hbel.trans (hgrow2.below hz hown)⟩
        have HO2 := hide hO2
        clear hO2 hown2 hgrow2
        go_wp2_with fail
        go_roundw
        case rel => exact HO2.out
        case measure => show 139 - (n + 1) < 139 - n; omega
      · have hd8 : decide (0 < (len8 : Int)) = false := by simp; omega
        go_wp2_with (at_builtin; go_must (refine wpList_app wr rfl _ _ 25 rfl 5 Ybad.underlying25 info5 w.heap.size g cap _ _ (by rfl) hown wr.heap.size rfl 1 _ (by rfl) (by rfl) (by simp [Value.oneCell']) (by omega) (by omega) (by omega) ?_); intro g2 cap2 w2 hown2 hgrow2)
        have hO2 : Own w 139 (.slice (some ⟨g2, 0, none⟩) (n + 1) cap2) w2 := ⟨n + 1, g2, cap2, l ++ [0], rfl, by omega, by rw [bytesV_append]; exact hown2, hy.append (Byt.one (by omega) (by omega)), hbel.trans (hgrow2.below hz hown)⟩
        have HO2 := hide hO2
        clear hO2 hown2 hgrow2
        go_wp2_with fail
        go_roundw
        case rel => exact HO2.out
        case measure => show 139 - (n + 1) < 139 - n; omega
    · have hdn : decide ((n : Int) < 139) = false := by simp; omega
      have HOWN2 := hide (show Own w 139 (.slice (some ⟨g, 0, none⟩) n cap) wr from ⟨n, g, cap, l, rfl, hn, hown, hy, hbel⟩)
      clear hown hy hbel
      go_wp2_with fail
      exact HK1.out _ _ (piece26 w wr a9 a10 len9 cap9 len10 cap10 ct t10 A Ln Cp Bs _ te ve HEQ.out HE.out hct H10.out hl10 HB10.out (by have := HSUM.out; omega) HIT.out (by have := HSUM.out; omega) HOWN2.out)
end Go.Proofs.YbulkdjaiDoor.B
