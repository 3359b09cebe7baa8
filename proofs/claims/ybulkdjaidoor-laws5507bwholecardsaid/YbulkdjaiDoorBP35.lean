import Derived.Test.YbulkdjaiDoorBP42
namespace Go.Proofs.YbulkdjaiDoor.B
open Go.RowKit

/-- b as it grows: at most N bytes, the call's own. -/
def Own (w : World) (N : Nat) (v : Value) (wr : World) : Prop := ∃ n g cap : Nat, ∃ l : List Int, v = .slice (some ⟨g, 0, none⟩) n cap ∧ n ≤ N ∧ wr.ownsRow w.heap.size 5 1 (.slice (some ⟨g, 0, none⟩) n cap) n (bytesV l) ∧ Byt l ∧ Below w.heap.size w wr

theorem own_reads {w : World} {B g n cap : Nat} {l : List Int} (h : w.ownsRow B 5 1 (.slice (some ⟨g, 0, none⟩) n cap) n (bytesV l)) : l.length = n ∧ n ≤ cap ∧ Reads w g l ∧ g < w.heap.size := by
  have hl : l.length = n := by have := h.1; simpa [bytesV] using this
  refine ⟨hl, ?_, fun j hj => ?_, (h.lt g rfl).2⟩
  · rcases h.2 with ⟨hv, _⟩ | ⟨g', cap', cur, hv, hbg, hgg, hnc, hcm, hcs, htake⟩
    · cases hv
    · injection hv with _ _ e3
      omega
  · rw [h.cellAt j (by omega)]
    simp [bytesV, List.getElem?_eq_getElem hj]
theorem Reads.take {w : World} {g : Nat} {l : List Int} (h : Reads w g l) (k : Nat) : Reads w g (l.take k) := fun j hj => by
  have hj' : j < l.length := by simp at hj; omega
  have hk : j < k := by simp at hj; omega
  rw [h j hj', List.getD_eq_getElem?_getD, List.getD_eq_getElem?_getD, List.getElem?_take, if_pos hk]

set_option maxHeartbeats 4000000 in
set_option maxRecDepth 100000 in
theorem piece35 {c0 c1 c2 c3 c4 c5 c6 c7 c8 c9 c12 c13 c14 c15 c16 c17 c18 c19 c20 c21 c22 c23 c24 c25 c26 c27 c29 c30 c31 c32 c33 c34 c35 c36 c37 c38 c39 c40 c41 c42 c43 c44 c45 c46 c47 c48 c49 c50 c51 c52 c53 c54 c55 c56 c57 c58 c59 c60 c61 c62 c63 c64 c65 c66 c67 c68 c69 c70 c71 c72 c73 c74 c75 c76 c77 c78 c79 c80 c81 c82 c83 c84 c85 c86 c87 c88 c89 c90 c91 c92 c93 c94 c95 c96 c97 c98 c99 c100 c101 c102 c103 c104 c105 c106 c107 c108 c109 c110 c111 c112 c113 c114 c115 c116 c117 c118 c119 c120 c121 c122 c123 c124 c125 c126 c127 c128 c129 c130 c131 c132 c133 c134 c135 c136 c137 c138 c139 c140 c141 c142 c143 c144 c145 c146 c147 c148 c149 c150 c151 c152 c153 c154 c155 c156 c157 c158 c159 c160 c161 c162 c163 c164 c165 c166 c167 c168 c169 c170 c171 c172 c173 c174 c175 c176 c177 c178 c179 c180 c181 c182 c183 c184 c185 c186 c187 c188 c189 c190 c191 c192 c193 c194 c195 c196 c197 c198 c199 c200 c201 c202 c203 c204 c205 c206 c207 c208 c209 c210 c211 c212 c213 c214 c215 c216 c217 c218 c219 c220 c221 c222 c223 c224 c225 c226 c227 c228 c229 c230 c231 c232 c233 c234 c235 c236 c237 c238 c239 c240 c241 c242 c243 c244 c245 c246 c247 c248 c249 c250 c251 c252 c253 c254 c255 c256 c257 c258 c259 c260 c261 c262 c263 c264 c265 c266 c267 c268 c269 c270 c271 c272 c273 c274 c275 c276 c277 c278 c279 c280 c281 c282 c283 c284 c285 c286 c287 c288 c289 c290 c291 c292 c293 c294 c295 c296 c297 c298 c299 c300 c301 c302 c303 c304 c305 c306 c307 c308 c309 c310 c311 c312 c313 c314 c315 c316 c317 c318 c319 c320 c321 c322 c323 c324 c325 c326 c327 c328 c329 c330 c331 c332 c333 c334 c335 c336 c337 c338 c339 c340 c341 c342 c343 c344 c345 c346 c347 c348 c349 c350 c351 c352 c353 c354 c355 c356 c357 c358 c359 c360 c361 c362 c363 c364 c365 c366 c367 c368 c369 c370 c371 c372 c373 c374 c375 c376 c377 c378 c379 c380 c381 c382 c383 c384 c385 c386 c387 c388 c389 c390 c391 c392 c393 c394 c395 c396 c397 c398 c399 c400 c401 c402 c403 c404 c405 c406 c407 c408 c409 : Value} (w0 w : World) (a10 : Option Addr) (len10 cap10 ct : Nat) (t10 : List Int) (v28 : Value) (te : TypeId) (ve : Value) (hEq : ∀ W, (binOp .eql 33 (.iface te ve) (.iface te ve)).run Ybad.prog W = .ok (.bool true) W)
    (hE : w0.cell? ⟨0, 0, none⟩ = some (.iface te ve)) (hct : ct < 65536) (h10 : BytesIn w0 a10 len10 t10) (hl10 : t10.length = len10) (hb10 : Byt t10) (hm10 : len10 ≤ 1048576) (hO : Own w0 4000000 v28 w) :
    Code.wp Ybad.prog ((Ybad.f3.body.bind (fromR 35)).getD .skip) (bodyPost Ybad.prog Ybad.f3 (Good w0)) ⟨List.toArray (c0 :: c1 :: c2 :: c3 :: c4 :: c5 :: c6 :: c7 :: c8 :: c9 :: (.slice a10 len10 cap10) :: (.int .u16 ct) :: c12 :: c13 :: c14 :: c15 :: c16 :: c17 :: c18 :: c19 :: c20 :: c21 :: c22 :: c23 :: c24 :: c25 :: c26 :: c27 :: (v28) :: c29 :: c30 :: c31 :: c32 :: c33 :: c34 :: c35 :: c36 :: c37 :: c38 :: c39 :: c40 :: c41 :: c42 :: c43 :: c44 :: c45 :: c46 :: c47 :: c48 :: c49 :: c50 :: c51 :: c52 :: c53 :: c54 :: c55 :: c56 :: c57 :: c58 :: c59 :: c60 :: c61 :: c62 :: c63 :: c64 :: c65 :: c66 :: c67 :: c68 :: c69 :: c70 :: c71 :: c72 :: c73 :: c74 :: c75 :: c76 :: c77 :: c78 :: c79 :: c80 :: c81 :: c82 :: c83 :: c84 :: c85 :: c86 :: c87 :: c88 :: c89 :: c90 :: c91 :: c92 :: c93 :: c94 :: c95 :: c96 :: c97 :: c98 :: c99 :: c100 :: c101 :: c102 :: c103 :: c104 :: c105 :: c106 :: c107 :: c108 :: c109 :: c110 :: c111 :: c112 :: c113 :: c114 :: c115 :: c116 :: c117 :: c118 :: c119 :: c120 :: c121 :: c122 :: c123 :: c124 :: c125 :: c126 :: c127 :: c128 :: c129 :: c130 :: c131 :: c132 :: c133 :: c134 :: c135 :: c136 :: c137 :: c138 :: c139 :: c140 :: c141 :: c142 :: c143 :: c144 :: c145 :: c146 :: c147 :: c148 :: c149 :: c150 :: c151 :: c152 :: c153 :: c154 :: c155 :: c156 :: c157 :: c158 :: c159 :: c160 :: c161 :: c162 :: c163 :: c164 :: c165 :: c166 :: c167 :: c168 :: c169 :: c170 :: c171 :: c172 :: c173 :: c174 :: c175 :: c176 :: c177 :: c178 :: c179 :: c180 :: c181 :: c182 :: c183 :: c184 :: c185 :: c186 :: c187 :: c188 :: c189 :: c190 :: c191 :: c192 :: c193 :: c194 :: c195 :: c196 :: c197 :: c198 :: c199 :: c200 :: c201 :: c202 :: c203 :: c204 :: c205 :: c206 :: c207 :: c208 :: c209 :: c210 :: c211 :: c212 :: c213 :: c214 :: c215 :: c216 :: c217 :: c218 :: c219 :: c220 :: c221 :: c222 :: c223 :: c224 :: c225 :: c226 :: c227 :: c228 :: c229 :: c230 :: c231 :: c232 :: c233 :: c234 :: c235 :: c236 :: c237 :: c238 :: c239 :: c240 :: c241 :: c242 :: c243 :: c244 :: c245 :: c246 :: c247 :: c248 :: c249 :: c250 :: c251 :: c252 :: c253 :: c254 :: c255 :: c256 :: c257 :: c258 :: c259 :: c260 :: c261 :: c262 :: c263 :: c264 :: c265 :: c266 :: c267 :: c268 :: c269 :: c270 :: c271 :: c272 :: c273 :: c274 :: c275 :: c276 :: c277 :: c278 :: c279 :: c280 :: c281 :: c282 :: c283 :: c284 :: c285 :: c286 :: c287 :: c288 :: c289 :: c290 :: c291 :: c292 :: c293 :: c294 :: c295 :: c296 :: c297 :: c298 :: c299 :: c300 :: c301 :: c302 :: c303 :: c304 :: c305 :: c306 :: c307 :: c308 :: c309 :: c310 :: c311 :: c312 :: c313 :: c314 :: c315 :: c316 :: c317 :: c318 :: c319 :: c320 :: c321 :: c322 :: c323 :: c324 :: c325 :: c326 :: c327 :: c328 :: c329 :: c330 :: c331 :: c332 :: c333 :: c334 :: c335 :: c336 :: c337 :: c338 :: c339 :: c340 :: c341 :: c342 :: c343 :: c344 :: c345 :: c346 :: c347 :: c348 :: c349 :: c350 :: c351 :: c352 :: c353 :: c354 :: c355 :: c356 :: c357 :: c358 :: c359 :: c360 :: c361 :: c362 :: c363 :: c364 :: c365 :: c366 :: c367 :: c368 :: c369 :: c370 :: c371 :: c372 :: c373 :: c374 :: c375 :: c376 :: c377 :: c378 :: c379 :: c380 :: c381 :: c382 :: c383 :: c384 :: c385 :: c386 :: c387 :: c388 :: c389 :: c390 :: c391 :: c392 :: c393 :: c394 :: c395 :: c396 :: c397 :: c398 :: c399 :: c400 :: c401 :: c402 :: c403 :: c404 :: c405 :: c406 :: c407 :: c408 :: c409 :: []), []⟩ w := by
  obtain ⟨n, g, cap, l, rfl, hn, hown, hy, hbel⟩ := hO
  have hz := hbel.size
  have HEQ := hide hEq
  have H10 := hide (h10.later hbel)
  have HE := hide hE
  have HBEL := hide hbel
  have HY := hide hy
  have HB10 := hide hb10
  clear hEq h10 hE hbel hy hb10
  show Code.wp _ (Code.seq _ _) _ _ _
  go_upto_region 36 with (at_builtin; go_must (refine wpList_app_in w rfl _ _ 25 rfl w0.heap.size 5 Ybad.underlying25 info5 g n cap _ (by rfl) hown a10 len10 cap10 t10 (by rfl) hl10 H10.out (by omega) (by omega) ?_); intro g5 cap5 w5 hown5 hgrow5)
  rw [← bytesV_append] at hown5
  obtain ⟨hL, hcap5, hr5, hg5⟩ := own_reads hown5
  have hb5 := HBEL.out.trans (hgrow5.below hz hown)
  have HB5 := hide hb5
  have HE5 := hide ((hb5.cell (block_lt_of_cell HE.out)).trans HE.out)
  have HR5 := hide hr5
  have HBY := hide (HY.out.append HB10.out)
  have HLL := hide hL
  clear hown5 hgrow5 hown hb5 hr5 hL
  generalize l ++ t10 = L at *
  obtain ⟨m, HM⟩ : ∃ m, Hid (m = n + len10) := ⟨_, rfl⟩
  have hm : m ≤ 6000000 := by rw [HM.out]; omega
  rw [← HM.out] at hcap5 HLL ⊢
  rename_i K1 hK1 K2 hK2
  have HK1 := hide hK1
  clear hK1
  by_cases hc : ct % 16 < 12
  · have hd : decide (12 ≤ (ct : Int) % 16) = false := by simp; omega
    go_wp2_with fail
    exact HK1.out _ _ (piece42 w0 w5 g5 m cap5 L HLL.out te ve HEQ.out HE5.out HBY.out (by rw [HLL.out]; exact hcap5) (by rw [HLL.out]; omega) HR5.out hg5 HB5.out)
  · have hd : decide (12 ≤ (ct : Int) % 16) = true := by simp; omega
    have hw : IntKind.i64.wrap ((ct : Int) % 16 - 11) = (ct : Int) % 16 - 11 := wrap_small _ (by omega) (by omega)
    by_cases ht : m < ct % 16 - 11
    · have hd2 : decide ((m : Int) < (ct : Int) % 16 - 11) = true := by simp; omega
      go_wp2_with fail
      exact HK1.out _ _ (piece42 w0 w5 g5 0 cap5 [] rfl te ve HEQ.out HE5.out (fun _ h => absurd h (by simp)) (by simp) (by simp) (fun j hj => absurd hj (by simp)) hg5 HB5.out)
    · have hd2 : decide ((m : Int) < (ct : Int) % 16 - 11) = false := by simp; omega
      have hw2 : IntKind.i64.wrap ((m : Int) - ((ct : Int) % 16 - 11)) = (m : Int) - ((ct : Int) % 16 - 11) := wrap_small _ (by omega) (by omega)
      have j1 : (0 : Int) ≤ (m : Int) - ((ct : Int) % 16 - 11) := by omega
      have j2 : (m : Int) - ((ct : Int) % 16 - 11) ≤ (cap5 : Int) := by omega
      have e1 : (L.take (m - (ct % 16 - 11))).length = (m - (ct % 16 - 11)) := by rw [List.length_take, HLL.out]; omega
      have E1 := hide e1
      have HTK := hide (HR5.out.take (m - (ct % 16 - 11)))
      clear e1
      go_wp2_with fail
      exact HK1.out _ _ (piece42 w0 w5 g5 _ cap5 _ E1.out te ve HEQ.out HE5.out (fun v hv => HBY.out v (List.mem_of_mem_take hv)) (by rw [E1.out]; omega) (by rw [E1.out]; omega) HTK.out hg5 HB5.out)
end Go.Proofs.YbulkdjaiDoor.B
