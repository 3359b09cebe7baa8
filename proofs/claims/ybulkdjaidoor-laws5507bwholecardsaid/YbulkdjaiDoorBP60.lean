import Derived.Test.YbulkdjaiDoorBP62
namespace Go.Proofs.YbulkdjaiDoor.B
open Go.RowKit

/-- v, err as they lie behind the parse. -/
def VErr (w : World) (g V : Nat) (l : List Int) (te : TypeId) (ve v36 : Value) : Prop :=
  (verdict l = none ∧ v36 = .iface te ve ∧ w.heap[V]? = some (.cells zeroVC 31 (0, 0))) ∨
  ∃ xs M, verdict l = some xs ∧ v36 = .nilIface ∧ w.heap[V]? = some (.cells (headVC l (.slice (some ⟨M, 0, none⟩) xs.length xs.length)) 31 (0, 0)) ∧ Laid w M xs.length xs.length g xs

theorem VErr.drew {w : World} {g V : Nat} {l : List Int} {te : TypeId} {ve v36 : Value} (h : VErr w g V l te ve v36) (k : Nat) : VErr (w.drewN k) g V l te ve v36 := by
  rcases h with ⟨a, b, c⟩ | ⟨xs, M, a, b, c, d⟩
  · exact .inl ⟨a, b, c⟩
  · exact .inr ⟨xs, M, a, b, c, d⟩

/-- Where a scan comes to its end, each item lies within l, and is not empty; there are no more of them than bytes. -/
theorem scan_within {l : List Int} : ∀ (f p : Nat) (xs : List (Nat × Nat)), scan l f p = some xs → (∀ x ∈ xs, 0 < x.2 ∧ x.1 + x.2 ≤ l.length) ∧ (xs.length + p ≤ l.length ∨ xs = [])
  | f, p, [], _ => ⟨fun _ hx => absurd hx (by simp), .inr rfl⟩
  | f, p, x :: ys, h => by
    obtain ⟨f', rfl, hx, hn0, hnl, _, hrest⟩ := scan_cons h
    obtain ⟨h1, h2⟩ := scan_within f' _ ys hrest
    subst hx
    refine ⟨fun y hy => ?_, .inl ?_⟩
    · rcases List.mem_cons.1 hy with rfl | hy
      · exact ⟨hn0, hnl⟩
      · exact h1 y hy
    · rcases h2 with h2 | rfl
      · simp only [List.length_cons]; omega
      · simp only [List.length_cons, List.length_nil]; omega

/-- A loop's verdict: ok, and what has been written down. -/
def Told (w : World) (l : List Int) (ok : Bool) (v38 v39 : Value) : Prop :=
  (ok = false ∧ verdict l = none) ∨ (ok = true ∧ 139 ≤ l.length ∧ l.getD 0 0 = 16 ∧ ∃ xs, scan l (l.length + 1) 139 = some xs ∧ IntsAt w v38 (xs.map (·.1)) ∧ IntsAt w v39 (xs.map (·.2)))

set_option maxHeartbeats 4000000 in
set_option maxRecDepth 100000 in
theorem piece60 {c0 c1 c2 c3 c4 c5 c6 c7 c8 c9 c10 c11 c12 c13 c14 c15 c16 c17 c18 c19 c20 c21 c22 c23 c24 c25 c26 c27 c29 c30 c31 c32 c33 c34 c40 c41 c42 c43 c44 c45 c46 c47 c48 c49 c50 c51 c52 c53 c54 c55 c56 c57 c58 c59 c60 c61 c62 c63 c64 c65 c66 c67 c68 c69 c70 c71 c72 c73 c74 c75 c76 c77 c78 c79 c80 c81 c82 c83 c84 c85 c86 c87 c88 c89 c90 c91 c92 c93 c94 c95 c96 c97 c98 c99 c100 c101 c102 c103 c104 c105 c106 c107 c108 c109 c110 c111 c112 c113 c114 c115 c116 c117 c118 c119 c120 c121 c122 c123 c124 c125 c126 c127 c128 c129 c130 c131 c132 c133 c134 c135 c136 c137 c138 c139 c140 c141 c142 c143 c144 c145 c146 c147 c148 c149 c150 c151 c152 c153 c154 c155 c156 c157 c158 c159 c160 c161 c162 c163 c164 c165 c166 c167 c168 c169 c170 c171 c172 c173 c174 c175 c176 c177 c178 c179 c180 c181 c182 c183 c184 c185 c186 c187 c188 c189 c190 c191 c192 c193 c194 c195 c196 c197 c198 c199 c200 c201 c202 c203 c204 c205 c206 c207 c208 c209 c210 c211 c212 c213 c214 c215 c216 c217 c218 c219 c220 c221 c222 c223 c224 c225 c226 c227 c228 c229 c230 c231 c232 c233 c234 c235 c236 c237 c238 c239 c240 c241 c242 c243 c244 c245 c246 c247 c248 c249 c250 c251 c252 c253 c254 c255 c256 c257 c258 c259 c260 c261 c262 c263 c264 c265 c266 c267 c268 c269 c270 c271 c272 c273 c274 c275 c276 c277 c278 c279 c280 c281 c282 c283 c284 c285 c286 c287 c288 c289 c290 c291 c292 c293 c294 c295 c296 c297 c298 c299 c300 c301 c302 c303 c304 c305 c306 c307 c308 c309 c310 c311 c312 c313 c314 c315 c316 c317 c318 c319 c320 c321 c322 c323 c324 c325 c326 c327 c328 c329 c330 c331 c332 c333 c334 c335 c336 c337 c338 c339 c340 c341 c342 c343 c344 c345 c346 c347 c348 c349 c350 c351 c352 c353 c354 c355 c356 c357 c358 c359 c360 c361 c362 c363 c364 c365 c366 c367 c368 c369 c370 c371 c372 c373 c374 c375 c376 c377 c378 c379 c380 c381 c382 c383 c384 c385 c386 c387 c388 c389 c390 c391 c392 c393 c394 c395 c396 c397 c398 c399 c400 c401 c402 c403 c404 c405 c406 c407 c408 c409 : Value} (w0 w : World) (g cap V : Nat) (l : List Int) (ok : Bool) (v36 v38 v39 : Value) (te : TypeId) (ve : Value) (hEq : ∀ W, (binOp .eql 33 (.iface te ve) (.iface te ve)).run Ybad.prog W = .ok (.bool true) W)
    (hE : w.cell? ⟨0, 0, none⟩ = some (.iface te ve)) (hby : Byt l) (hn : l.length ≤ cap) (hn7 : l.length ≤ 10000000) (hr : Reads w g l) (hT : Told w l ok v38 v39) (hV : VErr w g V l te ve v36) (hbel : Below w0.heap.size w0 w) :
    Code.wp Ybad.prog ((Ybad.f3.body.bind (fromR 60)).getD .skip) (bodyPost Ybad.prog Ybad.f3 (Good w0)) ⟨List.toArray (c0 :: c1 :: c2 :: c3 :: c4 :: c5 :: c6 :: c7 :: c8 :: c9 :: c10 :: c11 :: c12 :: c13 :: c14 :: c15 :: c16 :: c17 :: c18 :: c19 :: c20 :: c21 :: c22 :: c23 :: c24 :: c25 :: c26 :: c27 :: (.slice (some ⟨g, 0, none⟩) l.length cap) :: c29 :: c30 :: c31 :: c32 :: c33 :: c34 :: (.pointer (some ⟨V, 0, none⟩)) :: (v36) :: (.bool ok) :: (v38) :: (v39) :: c40 :: c41 :: c42 :: c43 :: c44 :: c45 :: c46 :: c47 :: c48 :: c49 :: c50 :: c51 :: c52 :: c53 :: c54 :: c55 :: c56 :: c57 :: c58 :: c59 :: c60 :: c61 :: c62 :: c63 :: c64 :: c65 :: c66 :: c67 :: c68 :: c69 :: c70 :: c71 :: c72 :: c73 :: c74 :: c75 :: c76 :: c77 :: c78 :: c79 :: c80 :: c81 :: c82 :: c83 :: c84 :: c85 :: c86 :: c87 :: c88 :: c89 :: c90 :: c91 :: c92 :: c93 :: c94 :: c95 :: c96 :: c97 :: c98 :: c99 :: c100 :: c101 :: c102 :: c103 :: c104 :: c105 :: c106 :: c107 :: c108 :: c109 :: c110 :: c111 :: c112 :: c113 :: c114 :: c115 :: c116 :: c117 :: c118 :: c119 :: c120 :: c121 :: c122 :: c123 :: c124 :: c125 :: c126 :: c127 :: c128 :: c129 :: c130 :: c131 :: c132 :: c133 :: c134 :: c135 :: c136 :: c137 :: c138 :: c139 :: c140 :: c141 :: c142 :: c143 :: c144 :: c145 :: c146 :: c147 :: c148 :: c149 :: c150 :: c151 :: c152 :: c153 :: c154 :: c155 :: c156 :: c157 :: c158 :: c159 :: c160 :: c161 :: c162 :: c163 :: c164 :: c165 :: c166 :: c167 :: c168 :: c169 :: c170 :: c171 :: c172 :: c173 :: c174 :: c175 :: c176 :: c177 :: c178 :: c179 :: c180 :: c181 :: c182 :: c183 :: c184 :: c185 :: c186 :: c187 :: c188 :: c189 :: c190 :: c191 :: c192 :: c193 :: c194 :: c195 :: c196 :: c197 :: c198 :: c199 :: c200 :: c201 :: c202 :: c203 :: c204 :: c205 :: c206 :: c207 :: c208 :: c209 :: c210 :: c211 :: c212 :: c213 :: c214 :: c215 :: c216 :: c217 :: c218 :: c219 :: c220 :: c221 :: c222 :: c223 :: c224 :: c225 :: c226 :: c227 :: c228 :: c229 :: c230 :: c231 :: c232 :: c233 :: c234 :: c235 :: c236 :: c237 :: c238 :: c239 :: c240 :: c241 :: c242 :: c243 :: c244 :: c245 :: c246 :: c247 :: c248 :: c249 :: c250 :: c251 :: c252 :: c253 :: c254 :: c255 :: c256 :: c257 :: c258 :: c259 :: c260 :: c261 :: c262 :: c263 :: c264 :: c265 :: c266 :: c267 :: c268 :: c269 :: c270 :: c271 :: c272 :: c273 :: c274 :: c275 :: c276 :: c277 :: c278 :: c279 :: c280 :: c281 :: c282 :: c283 :: c284 :: c285 :: c286 :: c287 :: c288 :: c289 :: c290 :: c291 :: c292 :: c293 :: c294 :: c295 :: c296 :: c297 :: c298 :: c299 :: c300 :: c301 :: c302 :: c303 :: c304 :: c305 :: c306 :: c307 :: c308 :: c309 :: c310 :: c311 :: c312 :: c313 :: c314 :: c315 :: c316 :: c317 :: c318 :: c319 :: c320 :: c321 :: c322 :: c323 :: c324 :: c325 :: c326 :: c327 :: c328 :: c329 :: c330 :: c331 :: c332 :: c333 :: c334 :: c335 :: c336 :: c337 :: c338 :: c339 :: c340 :: c341 :: c342 :: c343 :: c344 :: c345 :: c346 :: c347 :: c348 :: c349 :: c350 :: c351 :: c352 :: c353 :: c354 :: c355 :: c356 :: c357 :: c358 :: c359 :: c360 :: c361 :: c362 :: c363 :: c364 :: c365 :: c366 :: c367 :: c368 :: c369 :: c370 :: c371 :: c372 :: c373 :: c374 :: c375 :: c376 :: c377 :: c378 :: c379 :: c380 :: c381 :: c382 :: c383 :: c384 :: c385 :: c386 :: c387 :: c388 :: c389 :: c390 :: c391 :: c392 :: c393 :: c394 :: c395 :: c396 :: c397 :: c398 :: c399 :: c400 :: c401 :: c402 :: c403 :: c404 :: c405 :: c406 :: c407 :: c408 :: c409 :: []), []⟩ w := by
  have HR := hide hr
  have HBEL := hide hbel
  have HE := hide hE
  have HV := hide hV
  have HBY := hide hby
  have HEQ := hide hEq
  rcases hT with ⟨rfl, hv⟩ | ⟨rfl, h139, h16, xs, hsc, ho, hl⟩
  · clear hr hbel hE hV hby hEq
    rcases HV.out with ⟨_, rfl, hz⟩ | ⟨xs, M, hs, _⟩
    · have HZ := hide hz
      clear hz HV
      show Code.wp _ (Code.seq _ _) _ _ _
      refine wp_seq_k ?_
      intro K1 hK1
      have HK1 := hide hK1
      clear hK1
      refine wp_seq_k ?_
      intro K2 hK2
      go_quiet (fail)
      go_wp2_with fail
      exact HK1.out _ _ (piece62f w0 (w.drewN nq) V te ve HEQ.out HZ.out HE.out (HBEL.out.trans (Joins.below_draws _ _ _)))
    · rw [hv] at hs; cases hs
  · obtain ⟨n6a, n6b⟩ : 0 ≤ numAt l 35 4 ∧ numAt l 35 4 < 4294967296 := numAt_bd hby 35 4 (by omega)
    obtain ⟨n7a, n7b⟩ : 0 ≤ numAt l 39 4 ∧ numAt l 39 4 < 4294967296 := numAt_bd hby 39 4 (by omega)
    have B6 := hide (fun (W : World) (h : Reads W g l) (c : Nat) => be_at hby h 35 4 c (by omega) (by omega))
    have B7 := hide (fun (W : World) (h : Reads W g l) (c : Nat) => be_at hby h 39 4 c (by omega) (by omega))
    obtain ⟨x6, X6⟩ : ∃ x, Hid (x = numAt l 35 4) := ⟨_, rfl⟩
    obtain ⟨x7, X7⟩ : ∃ x, Hid (x = numAt l 39 4) := ⟨_, rfl⟩
    rw [← X6.out] at n6a n6b B6
    rw [← X7.out] at n7a n7b B7
    have hw := scan_within _ _ _ hsc
    have HSC := hide hsc
    have HO := hide ho
    have HLE := hide hl
    have HW := hide hw
    clear hr hbel hE hV hby hsc ho hl hw hEq
    have i39 : (39 : Int) ≤ (cap : Int) := by omega
    have i43 : (43 : Int) ≤ (cap : Int) := by omega
    have k35 : ¬ cap = 35 := by omega
    have k39 : ¬ cap = 39 := by omega
    by_cases hlt : x6 < x7
    · have hd : decide (x6 < x7) = true := by simp; omega
      have hvd : verdict l = some xs := by
        unfold verdict
        rw [if_neg (by rw [← X6.out, ← X7.out]; rintro (h1 | h1 | h1); omega; exact h1 h16; omega)]
        exact HSC.out
      rcases HV.out with ⟨hs, _⟩ | ⟨ys, M, hs, rfl, hz, hLd⟩
      · rw [hvd] at hs; cases hs
      · obtain rfl : xs = ys := by rw [hvd] at hs; exact Option.some.inj hs
        have HZ := hide hz
        have HLD := hide hLd
        clear hz hLd hs hvd HV
        show Code.wp _ (Code.seq _ _) _ _ _
        refine wp_seq_k ?_
        intro K1 hK1
        have HK1 := hide hK1
        clear hK1
        refine wp_seq_k ?_
        intro K2 hK2
        refine wp_region_quiet_lit (by kernel_rfl) (by kernel_rfl) ?_
        repeat (go_big_quiet_step (fail))
        go_big_quiet_step ((go_at_call 11; exact Calls.quiet_of_same (B6.out _ (by exact HR.out) _)))
        repeat (go_big_quiet_step (fail))
        go_big_quiet_step ((go_at_call 11; exact Calls.quiet_of_same (B7.out _ (by exact HR.out) _)))
        repeat (go_big_quiet_step (fail))
        refine wpQuiet_nil ?_
        intro _ hw'
        obtain ⟨nq, hw''⟩ := hw'
        subst hw''
        go_wp2_with fail
        exact HK1.out _ _ (piece62t w0 (w.drewN nq) g cap V M l _ _ xs HBY.out h139 hn (by rcases HW.out.2 with h | rfl; omega; simp) HR.out HZ.out HLD.out HO.out HLE.out (fun j hj => HW.out.1 _ (by rw [List.getD_eq_getElem?_getD, List.getElem?_eq_getElem hj]; exact List.getElem_mem hj)) (HBEL.out.trans (Joins.below_draws _ _ _)))
    · have hd : decide (x6 < x7) = false := by simp; omega
      have hvd : verdict l = none := by
        unfold verdict
        rw [if_pos (.inr (.inr (by rw [← X6.out, ← X7.out]; omega)))]
      rcases HV.out with ⟨_, rfl, hz⟩ | ⟨ys, M, hs, _⟩
      · have HZ := hide hz
        clear hz hvd HV
        show Code.wp _ (Code.seq _ _) _ _ _
        refine wp_seq_k ?_
        intro K1 hK1
        have HK1 := hide hK1
        clear hK1
        refine wp_seq_k ?_
        intro K2 hK2
        refine wp_region_quiet_lit (by kernel_rfl) (by kernel_rfl) ?_
        repeat (go_big_quiet_step (fail))
        go_big_quiet_step ((go_at_call 11; exact Calls.quiet_of_same (B6.out _ (by exact HR.out) _)))
        repeat (go_big_quiet_step (fail))
        go_big_quiet_step ((go_at_call 11; exact Calls.quiet_of_same (B7.out _ (by exact HR.out) _)))
        repeat (go_big_quiet_step (fail))
        refine wpQuiet_nil ?_
        intro _ hw'
        obtain ⟨nq, hw''⟩ := hw'
        subst hw''
        go_wp2_with fail
        exact HK1.out _ _ (piece62f w0 (w.drewN nq) V te ve HEQ.out HZ.out HE.out (HBEL.out.trans (Joins.below_draws _ _ _)))
      · rw [hvd] at hs; cases hs
end Go.Proofs.YbulkdjaiDoor.B
