import Derived.Test.YbulkdjaiDoorBP46
namespace Go.Proofs.YbulkdjaiDoor.B
open Go.RowKit

theorem Reads.inn {w : World} {g : Nat} {l : List Int} (h : Reads w g l) : BytesIn w (some ⟨g, 0, none⟩) l.length l := fun _ => ⟨g, 0, rfl, fun i hi => by rw [Nat.zero_add]; exact h i hi⟩

set_option maxHeartbeats 4000000 in
set_option maxRecDepth 100000 in
theorem piece42 {c0 c1 c2 c3 c4 c5 c6 c7 c8 c9 c10 c11 c12 c13 c14 c15 c16 c17 c18 c19 c20 c21 c22 c23 c24 c25 c26 c27 c29 c30 c31 c32 c33 c34 c35 c36 c37 c38 c39 c40 c41 c42 c43 c44 c45 c46 c47 c48 c49 c50 c51 c52 c53 c54 c55 c56 c57 c58 c59 c60 c61 c62 c63 c64 c65 c66 c67 c68 c69 c70 c71 c72 c73 c74 c75 c76 c77 c78 c79 c80 c81 c82 c83 c84 c85 c86 c87 c88 c89 c90 c91 c92 c93 c94 c95 c96 c97 c98 c99 c100 c101 c102 c103 c104 c105 c106 c107 c108 c109 c110 c111 c112 c113 c114 c115 c116 c117 c118 c119 c120 c121 c122 c123 c124 c125 c126 c127 c128 c129 c130 c131 c132 c133 c134 c135 c136 c137 c138 c139 c140 c141 c142 c143 c144 c145 c146 c147 c148 c149 c150 c151 c152 c153 c154 c155 c156 c157 c158 c159 c160 c161 c162 c163 c164 c165 c166 c167 c168 c169 c170 c171 c172 c173 c174 c175 c176 c177 c178 c179 c180 c181 c182 c183 c184 c185 c186 c187 c188 c189 c190 c191 c192 c193 c194 c195 c196 c197 c198 c199 c200 c201 c202 c203 c204 c205 c206 c207 c208 c209 c210 c211 c212 c213 c214 c215 c216 c217 c218 c219 c220 c221 c222 c223 c224 c225 c226 c227 c228 c229 c230 c231 c232 c233 c234 c235 c236 c237 c238 c239 c240 c241 c242 c243 c244 c245 c246 c247 c248 c249 c250 c251 c252 c253 c254 c255 c256 c257 c258 c259 c260 c261 c262 c263 c264 c265 c266 c267 c268 c269 c270 c271 c272 c273 c274 c275 c276 c277 c278 c279 c280 c281 c282 c283 c284 c285 c286 c287 c288 c289 c290 c291 c292 c293 c294 c295 c296 c297 c298 c299 c300 c301 c302 c303 c304 c305 c306 c307 c308 c309 c310 c311 c312 c313 c314 c315 c316 c317 c318 c319 c320 c321 c322 c323 c324 c325 c326 c327 c328 c329 c330 c331 c332 c333 c334 c335 c336 c337 c338 c339 c340 c341 c342 c343 c344 c345 c346 c347 c348 c349 c350 c351 c352 c353 c354 c355 c356 c357 c358 c359 c360 c361 c362 c363 c364 c365 c366 c367 c368 c369 c370 c371 c372 c373 c374 c375 c376 c377 c378 c379 c380 c381 c382 c383 c384 c385 c386 c387 c388 c389 c390 c391 c392 c393 c394 c395 c396 c397 c398 c399 c400 c401 c402 c403 c404 c405 c406 c407 c408 c409 : Value} (w0 w : World) (g n cap : Nat) (l : List Int) (hln : l.length = n) (te : TypeId) (ve : Value) (hEq : ∀ W, (binOp .eql 33 (.iface te ve) (.iface te ve)).run Ybad.prog W = .ok (.bool true) W)
    (hE : w.cell? ⟨0, 0, none⟩ = some (.iface te ve)) (hby : Byt l) (hn : l.length ≤ cap) (hn7 : l.length ≤ 10000000) (hr : Reads w g l) (hg : g < w.heap.size) (hbel : Below w0.heap.size w0 w) :
    Code.wp Ybad.prog ((Ybad.f3.body.bind (fromR 42)).getD .skip) (bodyPost Ybad.prog Ybad.f3 (Good w0)) ⟨List.toArray (c0 :: c1 :: c2 :: c3 :: c4 :: c5 :: c6 :: c7 :: c8 :: c9 :: c10 :: c11 :: c12 :: c13 :: c14 :: c15 :: c16 :: c17 :: c18 :: c19 :: c20 :: c21 :: c22 :: c23 :: c24 :: c25 :: c26 :: c27 :: (.slice (some ⟨g, 0, none⟩) n cap) :: c29 :: c30 :: c31 :: c32 :: c33 :: c34 :: c35 :: c36 :: c37 :: c38 :: c39 :: c40 :: c41 :: c42 :: c43 :: c44 :: c45 :: c46 :: c47 :: c48 :: c49 :: c50 :: c51 :: c52 :: c53 :: c54 :: c55 :: c56 :: c57 :: c58 :: c59 :: c60 :: c61 :: c62 :: c63 :: c64 :: c65 :: c66 :: c67 :: c68 :: c69 :: c70 :: c71 :: c72 :: c73 :: c74 :: c75 :: c76 :: c77 :: c78 :: c79 :: c80 :: c81 :: c82 :: c83 :: c84 :: c85 :: c86 :: c87 :: c88 :: c89 :: c90 :: c91 :: c92 :: c93 :: c94 :: c95 :: c96 :: c97 :: c98 :: c99 :: c100 :: c101 :: c102 :: c103 :: c104 :: c105 :: c106 :: c107 :: c108 :: c109 :: c110 :: c111 :: c112 :: c113 :: c114 :: c115 :: c116 :: c117 :: c118 :: c119 :: c120 :: c121 :: c122 :: c123 :: c124 :: c125 :: c126 :: c127 :: c128 :: c129 :: c130 :: c131 :: c132 :: c133 :: c134 :: c135 :: c136 :: c137 :: c138 :: c139 :: c140 :: c141 :: c142 :: c143 :: c144 :: c145 :: c146 :: c147 :: c148 :: c149 :: c150 :: c151 :: c152 :: c153 :: c154 :: c155 :: c156 :: c157 :: c158 :: c159 :: c160 :: c161 :: c162 :: c163 :: c164 :: c165 :: c166 :: c167 :: c168 :: c169 :: c170 :: c171 :: c172 :: c173 :: c174 :: c175 :: c176 :: c177 :: c178 :: c179 :: c180 :: c181 :: c182 :: c183 :: c184 :: c185 :: c186 :: c187 :: c188 :: c189 :: c190 :: c191 :: c192 :: c193 :: c194 :: c195 :: c196 :: c197 :: c198 :: c199 :: c200 :: c201 :: c202 :: c203 :: c204 :: c205 :: c206 :: c207 :: c208 :: c209 :: c210 :: c211 :: c212 :: c213 :: c214 :: c215 :: c216 :: c217 :: c218 :: c219 :: c220 :: c221 :: c222 :: c223 :: c224 :: c225 :: c226 :: c227 :: c228 :: c229 :: c230 :: c231 :: c232 :: c233 :: c234 :: c235 :: c236 :: c237 :: c238 :: c239 :: c240 :: c241 :: c242 :: c243 :: c244 :: c245 :: c246 :: c247 :: c248 :: c249 :: c250 :: c251 :: c252 :: c253 :: c254 :: c255 :: c256 :: c257 :: c258 :: c259 :: c260 :: c261 :: c262 :: c263 :: c264 :: c265 :: c266 :: c267 :: c268 :: c269 :: c270 :: c271 :: c272 :: c273 :: c274 :: c275 :: c276 :: c277 :: c278 :: c279 :: c280 :: c281 :: c282 :: c283 :: c284 :: c285 :: c286 :: c287 :: c288 :: c289 :: c290 :: c291 :: c292 :: c293 :: c294 :: c295 :: c296 :: c297 :: c298 :: c299 :: c300 :: c301 :: c302 :: c303 :: c304 :: c305 :: c306 :: c307 :: c308 :: c309 :: c310 :: c311 :: c312 :: c313 :: c314 :: c315 :: c316 :: c317 :: c318 :: c319 :: c320 :: c321 :: c322 :: c323 :: c324 :: c325 :: c326 :: c327 :: c328 :: c329 :: c330 :: c331 :: c332 :: c333 :: c334 :: c335 :: c336 :: c337 :: c338 :: c339 :: c340 :: c341 :: c342 :: c343 :: c344 :: c345 :: c346 :: c347 :: c348 :: c349 :: c350 :: c351 :: c352 :: c353 :: c354 :: c355 :: c356 :: c357 :: c358 :: c359 :: c360 :: c361 :: c362 :: c363 :: c364 :: c365 :: c366 :: c367 :: c368 :: c369 :: c370 :: c371 :: c372 :: c373 :: c374 :: c375 :: c376 :: c377 :: c378 :: c379 :: c380 :: c381 :: c382 :: c383 :: c384 :: c385 :: c386 :: c387 :: c388 :: c389 :: c390 :: c391 :: c392 :: c393 :: c394 :: c395 :: c396 :: c397 :: c398 :: c399 :: c400 :: c401 :: c402 :: c403 :: c404 :: c405 :: c406 :: c407 :: c408 :: c409 :: []), []⟩ w := by
  subst hln
  have hz0 := hbel.size
  have HR := hide hr
  have HBEL := hide hbel
  have HE := hide hE
  have HBY := hide hby
  have HEQ := hide hEq
  clear hbel hE hEq hr hby
  show Code.wp _ (Code.seq _ _) _ _ _
  go_wp2_with fail
  refine (clone_any g l.length cap l rfl hn7 w HR.out.inn).mono ?_
  rintro e w1 ⟨g1, cap1, rfl, hin1, hb1⟩
  have hz1 := hb1.size
  have hE1 := (hb1.cell (block_lt_of_cell HE.out)).trans HE.out
  have HR1 := hide (HR.out.later hb1)
  have HE1 := hide hE1
  have HB1 := hide (HBEL.out.trans (hb1.mono hz0))
  have HI1 := hide hin1
  clear hin1 hb1 hE1
  go_wp2_with fail
  refine (parse_vc g cap l HBY.out (.iface te ve) w1 (by omega) hn hn7 HR1.out HE1.out ⟨te, ve, rfl⟩).mono ?_
  rintro e w2 ⟨hb2, hcase⟩
  have hz2 := hb2.size
  have hE2 := (hb2.cell (block_lt_of_cell HE1.out)).trans HE1.out
  have HR2 := hide (HR1.out.later hb2)
  have HE2 := hide hE2
  have HB2 := hide (HB1.out.trans (hb2.mono (by omega)))
  have HI2 := hide (HI1.out.later hb2)
  clear hb2 hE2
  rcases hcase with ⟨hvd, rfl⟩ | ⟨xs, M, hvd, rfl, hM, hlaid⟩
  · have HVD := hide hvd
    clear hvd
    simp only [zeroVC]
    go_upto_region 44 with fail
    obtain ⟨W3, HW3⟩ : ∃ W, Hid (W = w2.alloc (.cells zeroVC 31)) := ⟨_, rfl⟩
    rename_i K1 hK1 K2 hK2
    have HK1 := hide hK1
    clear hK1
    have hb3 : Below w2.heap.size w2 W3 := by rw [HW3.out]; exact (Below.refl _ _).alloc (Nat.le_refl _) _
    have hV3 : W3.heap[w2.heap.size]? = some (.cells zeroVC 31 (0, 0)) := by rw [HW3.out]; exact heap_alloc_new w2 _
    rw [show w2.alloc (.cells #[.int .u64 0, .int .u64 0, .int .u16 0, .int .u64 0, .int .u64 0, .int .u32 0, .int .u32 0, .slice none 0 0] 31) = W3 from HW3.out.symm]
    have HV3 := hide hV3
    have HR3 := hide (HR2.out.later hb3)
    have HI3 := hide (HI2.out.later hb3)
    have HE3 := hide ((hb3.cell (block_lt_of_cell HE2.out)).trans HE2.out)
    have HB3 := hide (HB2.out.trans (hb3.mono (by omega)))
    have HV := hide (show VErr W3 g w2.heap.size l te ve _ from .inl ⟨HVD.out, rfl, HV3.out⟩)
    clear hb3 hV3 HW3
    go_wp2_with fail
    refine (equal_same (some ⟨g, 0, none⟩) (some ⟨g1, 0, none⟩) l.length cap cap1 l W3 rfl HR3.out.inn HI3.out).mono ?_
    rintro e w4 ⟨rfl, rfl⟩
    go_wp2_with fail
    exact HK1.out _ _ (piece46 w0 _ g cap w2.heap.size l _ te ve HEQ.out HE3.out HBY.out hn hn7 HR3.out HV.out HB3.out)
  · have HVD := hide hvd
    have HLD := hide hlaid
    clear hvd hlaid
    simp only [headVC]
    go_upto_region 44 with fail
    obtain ⟨W3, HW3⟩ : ∃ W, Hid (W = w2.alloc (.cells (headVC l (.slice (some ⟨M, 0, none⟩) xs.length xs.length)) 31)) := ⟨_, rfl⟩
    rename_i K1 hK1 K2 hK2
    have HK1 := hide hK1
    clear hK1
    have hb3 : Below w2.heap.size w2 W3 := by rw [HW3.out]; exact (Below.refl _ _).alloc (Nat.le_refl _) _
    have hV3 : W3.heap[w2.heap.size]? = some (.cells (headVC l (.slice (some ⟨M, 0, none⟩) xs.length xs.length)) 31 (0, 0)) := by rw [HW3.out]; exact heap_alloc_new w2 _
    rw [show w2.alloc (.cells #[.int .u64 (numAt l 1 8), .int .u64 (numAt l 9 8), .int .u16 (numAt l 17 2), .int .u64 (numAt l 19 8), .int .u64 (numAt l 27 8), .int .u32 (numAt l 35 4), .int .u32 (numAt l 39 4), .slice (some ⟨M, 0, none⟩) xs.length xs.length] 31) = W3 from HW3.out.symm]
    have HV3 := hide hV3
    have HR3 := hide (HR2.out.later hb3)
    have HI3 := hide (HI2.out.later hb3)
    have HE3 := hide ((hb3.cell (block_lt_of_cell HE2.out)).trans HE2.out)
    have HB3 := hide (HB2.out.trans (hb3.mono (by omega)))
    have HV := hide (show VErr W3 g w2.heap.size l te ve _ from .inr ⟨xs, M, HVD.out, rfl, HV3.out, by obtain ⟨cs, q1, q2, q3⟩ := HLD.out; exact ⟨cs, stays hb3 _ _ q1, q2, q3⟩⟩)
    clear hb3 hV3 HW3
    go_wp2_with fail
    refine (equal_same (some ⟨g, 0, none⟩) (some ⟨g1, 0, none⟩) l.length cap cap1 l W3 rfl HR3.out.inn HI3.out).mono ?_
    rintro e w4 ⟨rfl, rfl⟩
    go_wp2_with fail
    exact HK1.out _ _ (piece46 w0 _ g cap w2.heap.size l _ te ve HEQ.out HE3.out HBY.out hn hn7 HR3.out HV.out HB3.out)
end Go.Proofs.YbulkdjaiDoor.B
