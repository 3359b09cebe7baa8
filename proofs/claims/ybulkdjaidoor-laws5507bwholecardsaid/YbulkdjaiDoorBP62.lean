import Derived.Test.YbulkdjaiDoorBP70
import Derived.Test.YbulkdjaiDoorBParse
namespace Go.Proofs.YbulkdjaiDoor.B
open Go.RowKit

theorem drop_getD (l : List Int) (o k j : Nat) (hj : j < k) : ((l.drop o).take k).getD j 0 = l.getD (o + j) 0 := by
  rw [List.getD_eq_getElem?_getD, List.getElem?_take, if_pos hj, List.getElem?_drop, List.getD_eq_getElem?_getD]

theorem be_at {g : Nat} {l : List Int} {w : World} (hby : Byt l) (hr : Reads w g l) (o k c : Nat) (hk : k ≤ 8) (ho : o + k ≤ l.length) :
    Calls Ybad.prog 11 #[.slice (some ⟨g, o, none⟩) k c] w fun e w' => e = .returned (.int .u64 (numAt l o k)) ∧ w' = w :=
  be_any g o k c ((l.drop o).take k) (by simp; omega) (fun v hv => hby v (List.mem_of_mem_drop (List.mem_of_mem_take hv))) hk w
    (fun j hj => by rw [hr (o + j) (by omega), drop_getD l o k j hj])

theorem numAt_bd {l : List Int} (hby : Byt l) (o k : Nat) (ho : o + k ≤ l.length) : 0 ≤ numAt l o k ∧ numAt l o k < 256 ^ k := by
  have h := beN_bd (l := (l.drop o).take k) (fun v hv => hby v (List.mem_of_mem_drop (List.mem_of_mem_take hv))) k (by simp; omega)
  rwa [List.take_take, Nat.min_self] at h

set_option maxHeartbeats 4000000 in
set_option maxRecDepth 100000 in
theorem piece62f {c0 c1 c2 c3 c4 c5 c6 c7 c8 c9 c10 c11 c12 c13 c14 c15 c16 c17 c18 c19 c20 c21 c22 c23 c24 c25 c26 c27 c28 c29 c30 c31 c32 c33 c34 c38 c39 c40 c41 c42 c43 c44 c45 c46 c47 c48 c49 c50 c51 c52 c53 c54 c55 c56 c57 c58 c59 c60 c61 c62 c63 c64 c65 c66 c67 c68 c69 c70 c71 c72 c73 c74 c75 c76 c77 c78 c79 c80 c81 c82 c83 c84 c85 c86 c87 c88 c89 c90 c91 c92 c93 c94 c95 c96 c97 c98 c99 c100 c101 c102 c103 c104 c105 c106 c107 c108 c109 c110 c111 c112 c113 c114 c115 c116 c117 c118 c119 c120 c121 c122 c123 c124 c125 c126 c127 c128 c129 c130 c131 c132 c133 c134 c135 c136 c137 c138 c139 c140 c141 c142 c143 c144 c145 c146 c147 c148 c149 c150 c151 c152 c153 c154 c155 c156 c157 c158 c159 c160 c161 c162 c163 c164 c165 c166 c167 c168 c169 c170 c171 c172 c173 c174 c175 c176 c177 c178 c179 c180 c181 c182 c183 c184 c185 c186 c187 c188 c189 c190 c191 c192 c193 c194 c195 c196 c197 c198 c199 c200 c201 c202 c203 c204 c205 c206 c207 c208 c209 c210 c211 c212 c213 c214 c215 c216 c217 c218 c219 c220 c221 c222 c223 c224 c225 c226 c227 c228 c229 c230 c231 c232 c233 c234 c235 c236 c237 c238 c239 c240 c241 c242 c243 c244 c245 c246 c247 c248 c249 c250 c251 c252 c253 c254 c255 c256 c257 c258 c259 c260 c261 c262 c263 c264 c265 c266 c267 c268 c269 c270 c271 c272 c273 c274 c275 c276 c277 c278 c279 c280 c281 c282 c283 c284 c285 c286 c287 c288 c289 c290 c291 c292 c293 c294 c295 c296 c297 c298 c299 c300 c301 c302 c303 c304 c305 c306 c307 c308 c309 c310 c311 c312 c313 c314 c315 c316 c317 c318 c319 c320 c321 c322 c323 c324 c325 c326 c327 c328 c329 c330 c331 c332 c333 c334 c335 c336 c337 c338 c339 c340 c341 c342 c343 c344 c345 c346 c347 c348 c349 c350 c351 c352 c353 c354 c355 c356 c357 c358 c359 c360 c361 c362 c363 c364 c365 c366 c367 c368 c369 c370 c371 c372 c373 c374 c375 c376 c377 c378 c379 c380 c381 c382 c383 c384 c385 c386 c387 c388 c389 c390 c391 c392 c393 c394 c395 c396 c397 c398 c399 c400 c401 c402 c403 c404 c405 c406 c407 c408 c409 : Value} (w0 w : World) (V : Nat) (te : TypeId) (ve : Value) (hEq : ∀ W, (binOp .eql 33 (.iface te ve) (.iface te ve)).run Ybad.prog W = .ok (.bool true) W)
    (hV : w.heap[V]? = some (.cells zeroVC 31 (0, 0))) (hE : w.cell? ⟨0, 0, none⟩ = some (.iface te ve)) (hbel : Below w0.heap.size w0 w) :
    Code.wp Ybad.prog ((Ybad.f3.body.bind (fromR 62)).getD .skip) (bodyPost Ybad.prog Ybad.f3 (Good w0)) ⟨List.toArray (c0 :: c1 :: c2 :: c3 :: c4 :: c5 :: c6 :: c7 :: c8 :: c9 :: c10 :: c11 :: c12 :: c13 :: c14 :: c15 :: c16 :: c17 :: c18 :: c19 :: c20 :: c21 :: c22 :: c23 :: c24 :: c25 :: c26 :: c27 :: c28 :: c29 :: c30 :: c31 :: c32 :: c33 :: c34 :: (.pointer (some ⟨V, 0, none⟩)) :: (.iface te ve) :: (.bool false) :: c38 :: c39 :: c40 :: c41 :: c42 :: c43 :: c44 :: c45 :: c46 :: c47 :: c48 :: c49 :: c50 :: c51 :: c52 :: c53 :: c54 :: c55 :: c56 :: c57 :: c58 :: c59 :: c60 :: c61 :: c62 :: c63 :: c64 :: c65 :: c66 :: c67 :: c68 :: c69 :: c70 :: c71 :: c72 :: c73 :: c74 :: c75 :: c76 :: c77 :: c78 :: c79 :: c80 :: c81 :: c82 :: c83 :: c84 :: c85 :: c86 :: c87 :: c88 :: c89 :: c90 :: c91 :: c92 :: c93 :: c94 :: c95 :: c96 :: c97 :: c98 :: c99 :: c100 :: c101 :: c102 :: c103 :: c104 :: c105 :: c106 :: c107 :: c108 :: c109 :: c110 :: c111 :: c112 :: c113 :: c114 :: c115 :: c116 :: c117 :: c118 :: c119 :: c120 :: c121 :: c122 :: c123 :: c124 :: c125 :: c126 :: c127 :: c128 :: c129 :: c130 :: c131 :: c132 :: c133 :: c134 :: c135 :: c136 :: c137 :: c138 :: c139 :: c140 :: c141 :: c142 :: c143 :: c144 :: c145 :: c146 :: c147 :: c148 :: c149 :: c150 :: c151 :: c152 :: c153 :: c154 :: c155 :: c156 :: c157 :: c158 :: c159 :: c160 :: c161 :: c162 :: c163 :: c164 :: c165 :: c166 :: c167 :: c168 :: c169 :: c170 :: c171 :: c172 :: c173 :: c174 :: c175 :: c176 :: c177 :: c178 :: c179 :: c180 :: c181 :: c182 :: c183 :: c184 :: c185 :: c186 :: c187 :: c188 :: c189 :: c190 :: c191 :: c192 :: c193 :: c194 :: c195 :: c196 :: c197 :: c198 :: c199 :: c200 :: c201 :: c202 :: c203 :: c204 :: c205 :: c206 :: c207 :: c208 :: c209 :: c210 :: c211 :: c212 :: c213 :: c214 :: c215 :: c216 :: c217 :: c218 :: c219 :: c220 :: c221 :: c222 :: c223 :: c224 :: c225 :: c226 :: c227 :: c228 :: c229 :: c230 :: c231 :: c232 :: c233 :: c234 :: c235 :: c236 :: c237 :: c238 :: c239 :: c240 :: c241 :: c242 :: c243 :: c244 :: c245 :: c246 :: c247 :: c248 :: c249 :: c250 :: c251 :: c252 :: c253 :: c254 :: c255 :: c256 :: c257 :: c258 :: c259 :: c260 :: c261 :: c262 :: c263 :: c264 :: c265 :: c266 :: c267 :: c268 :: c269 :: c270 :: c271 :: c272 :: c273 :: c274 :: c275 :: c276 :: c277 :: c278 :: c279 :: c280 :: c281 :: c282 :: c283 :: c284 :: c285 :: c286 :: c287 :: c288 :: c289 :: c290 :: c291 :: c292 :: c293 :: c294 :: c295 :: c296 :: c297 :: c298 :: c299 :: c300 :: c301 :: c302 :: c303 :: c304 :: c305 :: c306 :: c307 :: c308 :: c309 :: c310 :: c311 :: c312 :: c313 :: c314 :: c315 :: c316 :: c317 :: c318 :: c319 :: c320 :: c321 :: c322 :: c323 :: c324 :: c325 :: c326 :: c327 :: c328 :: c329 :: c330 :: c331 :: c332 :: c333 :: c334 :: c335 :: c336 :: c337 :: c338 :: c339 :: c340 :: c341 :: c342 :: c343 :: c344 :: c345 :: c346 :: c347 :: c348 :: c349 :: c350 :: c351 :: c352 :: c353 :: c354 :: c355 :: c356 :: c357 :: c358 :: c359 :: c360 :: c361 :: c362 :: c363 :: c364 :: c365 :: c366 :: c367 :: c368 :: c369 :: c370 :: c371 :: c372 :: c373 :: c374 :: c375 :: c376 :: c377 :: c378 :: c379 :: c380 :: c381 :: c382 :: c383 :: c384 :: c385 :: c386 :: c387 :: c388 :: c389 :: c390 :: c391 :: c392 :: c393 :: c394 :: c395 :: c396 :: c397 :: c398 :: c399 :: c400 :: c401 :: c402 :: c403 :: c404 :: c405 :: c406 :: c407 :: c408 :: c409 :: []), []⟩ w := by
  obtain ⟨⟨z0, z1, z2, z3, z4, z5, z6, z7⟩, _⟩ := eight_at hV
  have HBEL := hide hbel
  clear hV hbel
  have hnil := fun (W : World) => Lib.run_eql_slice_nil (P := Ybad.prog) W 26 25 none 0 0 0 0 Ybad.underlying26
  show Code.wp _ (Code.seq _ _) _ _ _
  go_wp2_with fail
  go_ret
  exact ⟨rfl, HBEL.out⟩

set_option maxHeartbeats 4000000 in
set_option maxRecDepth 100000 in
theorem piece62t {c0 c1 c2 c3 c4 c5 c6 c7 c8 c9 c10 c11 c12 c13 c14 c15 c16 c17 c18 c19 c20 c21 c22 c23 c24 c25 c26 c27 c29 c30 c31 c32 c33 c34 c40 c41 c42 c43 c44 c45 c46 c47 c48 c49 c50 c51 c52 c53 c54 c55 c56 c57 c58 c59 c60 c61 c62 c63 c64 c65 c66 c67 c68 c69 c70 c71 c72 c73 c74 c75 c76 c77 c78 c79 c80 c81 c82 c83 c84 c85 c86 c87 c88 c89 c90 c91 c92 c93 c94 c95 c96 c97 c98 c99 c100 c101 c102 c103 c104 c105 c106 c107 c108 c109 c110 c111 c112 c113 c114 c115 c116 c117 c118 c119 c120 c121 c122 c123 c124 c125 c126 c127 c128 c129 c130 c131 c132 c133 c134 c135 c136 c137 c138 c139 c140 c141 c142 c143 c144 c145 c146 c147 c148 c149 c150 c151 c152 c153 c154 c155 c156 c157 c158 c159 c160 c161 c162 c163 c164 c165 c166 c167 c168 c169 c170 c171 c172 c173 c174 c175 c176 c177 c178 c179 c180 c181 c182 c183 c184 c185 c186 c187 c188 c189 c190 c191 c192 c193 c194 c195 c196 c197 c198 c199 c200 c201 c202 c203 c204 c205 c206 c207 c208 c209 c210 c211 c212 c213 c214 c215 c216 c217 c218 c219 c220 c221 c222 c223 c224 c225 c226 c227 c228 c229 c230 c231 c232 c233 c234 c235 c236 c237 c238 c239 c240 c241 c242 c243 c244 c245 c246 c247 c248 c249 c250 c251 c252 c253 c254 c255 c256 c257 c258 c259 c260 c261 c262 c263 c264 c265 c266 c267 c268 c269 c270 c271 c272 c273 c274 c275 c276 c277 c278 c279 c280 c281 c282 c283 c284 c285 c286 c287 c288 c289 c290 c291 c292 c293 c294 c295 c296 c297 c298 c299 c300 c301 c302 c303 c304 c305 c306 c307 c308 c309 c310 c311 c312 c313 c314 c315 c316 c317 c318 c319 c320 c321 c322 c323 c324 c325 c326 c327 c328 c329 c330 c331 c332 c333 c334 c335 c336 c337 c338 c339 c340 c341 c342 c343 c344 c345 c346 c347 c348 c349 c350 c351 c352 c353 c354 c355 c356 c357 c358 c359 c360 c361 c362 c363 c364 c365 c366 c367 c368 c369 c370 c371 c372 c373 c374 c375 c376 c377 c378 c379 c380 c381 c382 c383 c384 c385 c386 c387 c388 c389 c390 c391 c392 c393 c394 c395 c396 c397 c398 c399 c400 c401 c402 c403 c404 c405 c406 c407 c408 c409 : Value} (w0 w : World) (g cap V M : Nat) (l : List Int) (v38 v39 : Value) (xs : List (Nat × Nat)) (hby : Byt l) (h139 : 139 ≤ l.length) (hn : l.length ≤ cap) (hk : xs.length ≤ 10000000) (hr : Reads w g l)
    (hV : w.heap[V]? = some (.cells (headVC l (.slice (some ⟨M, 0, none⟩) xs.length xs.length)) 31 (0, 0))) (hL : Laid w M xs.length xs.length g xs) (ho : IntsAt w v38 (xs.map (·.1))) (hl : IntsAt w v39 (xs.map (·.2)))
    (hx : ∀ j, j < xs.length → 0 < (xs.getD j (0, 0)).2 ∧ (xs.getD j (0, 0)).1 + (xs.getD j (0, 0)).2 ≤ l.length) (hbel : Below w0.heap.size w0 w) :
    Code.wp Ybad.prog ((Ybad.f3.body.bind (fromR 62)).getD .skip) (bodyPost Ybad.prog Ybad.f3 (Good w0)) ⟨List.toArray (c0 :: c1 :: c2 :: c3 :: c4 :: c5 :: c6 :: c7 :: c8 :: c9 :: c10 :: c11 :: c12 :: c13 :: c14 :: c15 :: c16 :: c17 :: c18 :: c19 :: c20 :: c21 :: c22 :: c23 :: c24 :: c25 :: c26 :: c27 :: (.slice (some ⟨g, 0, none⟩) l.length cap) :: c29 :: c30 :: c31 :: c32 :: c33 :: c34 :: (.pointer (some ⟨V, 0, none⟩)) :: (.nilIface) :: (.bool true) :: (v38) :: (v39) :: c40 :: c41 :: c42 :: c43 :: c44 :: c45 :: c46 :: c47 :: c48 :: c49 :: c50 :: c51 :: c52 :: c53 :: c54 :: c55 :: c56 :: c57 :: c58 :: c59 :: c60 :: c61 :: c62 :: c63 :: c64 :: c65 :: c66 :: c67 :: c68 :: c69 :: c70 :: c71 :: c72 :: c73 :: c74 :: c75 :: c76 :: c77 :: c78 :: c79 :: c80 :: c81 :: c82 :: c83 :: c84 :: c85 :: c86 :: c87 :: c88 :: c89 :: c90 :: c91 :: c92 :: c93 :: c94 :: c95 :: c96 :: c97 :: c98 :: c99 :: c100 :: c101 :: c102 :: c103 :: c104 :: c105 :: c106 :: c107 :: c108 :: c109 :: c110 :: c111 :: c112 :: c113 :: c114 :: c115 :: c116 :: c117 :: c118 :: c119 :: c120 :: c121 :: c122 :: c123 :: c124 :: c125 :: c126 :: c127 :: c128 :: c129 :: c130 :: c131 :: c132 :: c133 :: c134 :: c135 :: c136 :: c137 :: c138 :: c139 :: c140 :: c141 :: c142 :: c143 :: c144 :: c145 :: c146 :: c147 :: c148 :: c149 :: c150 :: c151 :: c152 :: c153 :: c154 :: c155 :: c156 :: c157 :: c158 :: c159 :: c160 :: c161 :: c162 :: c163 :: c164 :: c165 :: c166 :: c167 :: c168 :: c169 :: c170 :: c171 :: c172 :: c173 :: c174 :: c175 :: c176 :: c177 :: c178 :: c179 :: c180 :: c181 :: c182 :: c183 :: c184 :: c185 :: c186 :: c187 :: c188 :: c189 :: c190 :: c191 :: c192 :: c193 :: c194 :: c195 :: c196 :: c197 :: c198 :: c199 :: c200 :: c201 :: c202 :: c203 :: c204 :: c205 :: c206 :: c207 :: c208 :: c209 :: c210 :: c211 :: c212 :: c213 :: c214 :: c215 :: c216 :: c217 :: c218 :: c219 :: c220 :: c221 :: c222 :: c223 :: c224 :: c225 :: c226 :: c227 :: c228 :: c229 :: c230 :: c231 :: c232 :: c233 :: c234 :: c235 :: c236 :: c237 :: c238 :: c239 :: c240 :: c241 :: c242 :: c243 :: c244 :: c245 :: c246 :: c247 :: c248 :: c249 :: c250 :: c251 :: c252 :: c253 :: c254 :: c255 :: c256 :: c257 :: c258 :: c259 :: c260 :: c261 :: c262 :: c263 :: c264 :: c265 :: c266 :: c267 :: c268 :: c269 :: c270 :: c271 :: c272 :: c273 :: c274 :: c275 :: c276 :: c277 :: c278 :: c279 :: c280 :: c281 :: c282 :: c283 :: c284 :: c285 :: c286 :: c287 :: c288 :: c289 :: c290 :: c291 :: c292 :: c293 :: c294 :: c295 :: c296 :: c297 :: c298 :: c299 :: c300 :: c301 :: c302 :: c303 :: c304 :: c305 :: c306 :: c307 :: c308 :: c309 :: c310 :: c311 :: c312 :: c313 :: c314 :: c315 :: c316 :: c317 :: c318 :: c319 :: c320 :: c321 :: c322 :: c323 :: c324 :: c325 :: c326 :: c327 :: c328 :: c329 :: c330 :: c331 :: c332 :: c333 :: c334 :: c335 :: c336 :: c337 :: c338 :: c339 :: c340 :: c341 :: c342 :: c343 :: c344 :: c345 :: c346 :: c347 :: c348 :: c349 :: c350 :: c351 :: c352 :: c353 :: c354 :: c355 :: c356 :: c357 :: c358 :: c359 :: c360 :: c361 :: c362 :: c363 :: c364 :: c365 :: c366 :: c367 :: c368 :: c369 :: c370 :: c371 :: c372 :: c373 :: c374 :: c375 :: c376 :: c377 :: c378 :: c379 :: c380 :: c381 :: c382 :: c383 :: c384 :: c385 :: c386 :: c387 :: c388 :: c389 :: c390 :: c391 :: c392 :: c393 :: c394 :: c395 :: c396 :: c397 :: c398 :: c399 :: c400 :: c401 :: c402 :: c403 :: c404 :: c405 :: c406 :: c407 :: c408 :: c409 :: []), []⟩ w := by
  obtain ⟨⟨z0, z1, z2, z3, z4, z5, z6, z7⟩, _⟩ := eight_at hV
  have n1 : 0 ≤ numAt l 1 8 ∧ numAt l 1 8 < 18446744073709551616 := numAt_bd hby 1 8 (by omega)
  have n2 : 0 ≤ numAt l 9 8 ∧ numAt l 9 8 < 18446744073709551616 := numAt_bd hby 9 8 (by omega)
  have n3 : 0 ≤ numAt l 17 2 ∧ numAt l 17 2 < 65536 := numAt_bd hby 17 2 (by omega)
  have n4 : 0 ≤ numAt l 19 8 ∧ numAt l 19 8 < 18446744073709551616 := numAt_bd hby 19 8 (by omega)
  have n5 : 0 ≤ numAt l 27 8 ∧ numAt l 27 8 < 18446744073709551616 := numAt_bd hby 27 8 (by omega)
  have n6 : 0 ≤ numAt l 35 4 ∧ numAt l 35 4 < 4294967296 := numAt_bd hby 35 4 (by omega)
  have n7 : 0 ≤ numAt l 39 4 ∧ numAt l 39 4 < 4294967296 := numAt_bd hby 39 4 (by omega)
  have B1 := hide (fun (W : World) (h : Reads W g l) (c : Nat) => be_at hby h 1 8 c (by omega) (by omega))
  have B2 := hide (fun (W : World) (h : Reads W g l) (c : Nat) => be_at hby h 9 8 c (by omega) (by omega))
  have B3 := hide (fun (W : World) (h : Reads W g l) (c : Nat) => be_at hby h 17 2 c (by omega) (by omega))
  have B4 := hide (fun (W : World) (h : Reads W g l) (c : Nat) => be_at hby h 19 8 c (by omega) (by omega))
  have B5 := hide (fun (W : World) (h : Reads W g l) (c : Nat) => be_at hby h 27 8 c (by omega) (by omega))
  have B6 := hide (fun (W : World) (h : Reads W g l) (c : Nat) => be_at hby h 35 4 c (by omega) (by omega))
  have B7 := hide (fun (W : World) (h : Reads W g l) (c : Nat) => be_at hby h 39 4 c (by omega) (by omega))
  clear hV
  obtain ⟨x1, X1⟩ : ∃ x, Hid (x = numAt l 1 8) := ⟨_, rfl⟩
  obtain ⟨x2, X2⟩ : ∃ x, Hid (x = numAt l 9 8) := ⟨_, rfl⟩
  obtain ⟨x3, X3⟩ : ∃ x, Hid (x = numAt l 17 2) := ⟨_, rfl⟩
  obtain ⟨x4, X4⟩ : ∃ x, Hid (x = numAt l 19 8) := ⟨_, rfl⟩
  obtain ⟨x5, X5⟩ : ∃ x, Hid (x = numAt l 27 8) := ⟨_, rfl⟩
  obtain ⟨x6, X6⟩ : ∃ x, Hid (x = numAt l 35 4) := ⟨_, rfl⟩
  obtain ⟨x7, X7⟩ : ∃ x, Hid (x = numAt l 39 4) := ⟨_, rfl⟩
  rw [← X1.out] at z0 n1 B1
  rw [← X2.out] at z1 n2 B2
  rw [← X3.out] at z2 n3 B3
  rw [← X4.out] at z3 n4 B4
  rw [← X5.out] at z4 n5 B5
  rw [← X6.out] at z5 n6 B6
  rw [← X7.out] at z6 n7 B7
  obtain ⟨n1a, n1b⟩ := n1
  obtain ⟨n2a, n2b⟩ := n2
  obtain ⟨n3a, n3b⟩ := n3
  obtain ⟨n4a, n4b⟩ := n4
  obtain ⟨n5a, n5b⟩ := n5
  obtain ⟨n6a, n6b⟩ := n6
  obtain ⟨n7a, n7b⟩ := n7
  have HR := hide hr
  have HL := hide hL
  have HO := hide ho
  have HLE := hide hl
  have HX := hide hx
  have HBEL := hide hbel
  have HBY := hide hby
  clear hr hL ho hl hx hbel hby
  obtain ⟨a38, k38, e38, hk38, _⟩ := HO.out
  simp only [List.length_map] at e38 hk38
  subst e38
  have i9 : (9 : Int) ≤ (cap : Int) := by omega
  have i17 : (17 : Int) ≤ (cap : Int) := by omega
  have i19 : (19 : Int) ≤ (cap : Int) := by omega
  have i27 : (27 : Int) ≤ (cap : Int) := by omega
  have i35 : (35 : Int) ≤ (cap : Int) := by omega
  have i39 : (39 : Int) ≤ (cap : Int) := by omega
  have i43 : (43 : Int) ≤ (cap : Int) := by omega
  have k1 : ¬ cap = 1 := by omega
  have k9 : ¬ cap = 9 := by omega
  have k17 : ¬ cap = 17 := by omega
  have k19 : ¬ cap = 19 := by omega
  have k27 : ¬ cap = 27 := by omega
  have k35 : ¬ cap = 35 := by omega
  have k39 : ¬ cap = 39 := by omega
  show Code.wp _ (Code.seq _ _) _ _ _
  go_wp2_with fail
  refine wp_region_quiet_lit (by kernel_rfl) (by kernel_rfl) ?_
  repeat (go_big_quiet_step (fail))
  go_big_quiet_step ((go_at_call 11; exact Calls.quiet_of_same (B1.out _ (by exact HR.out) _)))
  repeat (go_big_quiet_step (fail))
  go_big_quiet_step ((go_at_call 11; exact Calls.quiet_of_same (B2.out _ (by exact HR.out) _)))
  repeat (go_big_quiet_step (fail))
  go_big_quiet_step ((go_at_call 11; exact Calls.quiet_of_same (B3.out _ (by exact HR.out) _)))
  repeat (go_big_quiet_step (fail))
  go_big_quiet_step ((go_at_call 11; exact Calls.quiet_of_same (B4.out _ (by exact HR.out) _)))
  repeat (go_big_quiet_step (fail))
  go_big_quiet_step ((go_at_call 11; exact Calls.quiet_of_same (B5.out _ (by exact HR.out) _)))
  repeat (go_big_quiet_step (fail))
  go_big_quiet_step ((go_at_call 11; exact Calls.quiet_of_same (B6.out _ (by exact HR.out) _)))
  repeat (go_big_quiet_step (fail))
  go_big_quiet_step ((go_at_call 11; exact Calls.quiet_of_same (B7.out _ (by exact HR.out) _)))
  repeat (go_big_quiet_step (fail))
  refine wpQuiet_nil ?_
  intro _ hw'
  obtain ⟨nq, hw''⟩ := hw'
  subst hw''
  have hnil := fun (W : World) => Lib.run_eql_slice_nil (P := Ybad.prog) W 26 25 (some ⟨M, 0, none⟩) xs.length xs.length 0 0 Ybad.underlying26
  go_upto_if 373 with fail
  rename_i hK
  refine wp_cond_false (by rfl) (wp_skip ?_)
  exact hK _ _ (piece70 w0 (w.drewN nq) g l.length cap V M _ _ xs hk z7 HL.out HO.out HLE.out HX.out (HBEL.out.trans (Joins.below_draws _ _ _)))
end Go.Proofs.YbulkdjaiDoor.B
