import Derived.Test.YbulkdjaiDoorBP60
namespace Go.Proofs.YbulkdjaiDoor.B
open Go.RowKit

theorem info3 : (Ybad.prog.info? 3).map (fun i => (i.zero, i.size, i.bytes)) = some (some (.int .i64 0), 1, 8) := by kernel_rfl

/-- Ints as cells. -/
def intsV (l : List Nat) : List Value := l.map (fun (n : Nat) => Value.int .i64 (n : Int))
theorem intsV_snoc (l : List Nat) (n : Nat) : intsV (l ++ [n]) = intsV l ++ [.int .i64 (n : Int)] := by simp [intsV]

/-- 'append(s, x)' onto a row of ints that is owned (it may be nil). -/
theorem wpList_app_int (W : World) {ops : Array Oper} {rest : List Oper} {o : Oper} {a : Act} {Q : Exit → Act → World → Prop} (hgd : o.guard = none) (s x : Operand)
    (ho : o.op = .call { callee := .builtin .append, args := #[s, x], argTypes := #[37, 37] })
    (B : Nat) (v : Value) (n : Nat) (xs : List Value) (hs : a.eval s = v) (hown : W.ownsRow B 3 1 v n xs)
    (N : Nat) (hN : W.heap.size = N) (u : Value) (hu : u.oneCell' = true) (hx : a.eval x = .slice (some ⟨N, 0, none⟩) 1 1) (hb : n ≤ 10000000) (hB : B ≤ W.heap.size)
    (h : ∀ g cap w', w'.ownsRow B 3 1 (.slice (some ⟨g, 0, none⟩) (n + 1) cap) (n + 1) (xs ++ [u]) → YbulkdjaiDoor.Grew W w' v (.slice (some ⟨g, 0, none⟩) (n + 1) cap) → wpList Ybad.prog ops Q rest (a.put o.dst (.slice (some ⟨g, 0, none⟩) (n + 1) cap)) w') :
    wpList Ybad.prog ops Q (o :: rest) a (W.alloc (.cells #[u] 3)) := by
  obtain ⟨i, hi, hz0, hz1, hz2⟩ := info_parts' info3
  subst hN
  refine wpList_append_lies (P := Ybad.prog) (W.alloc (.cells #[u] 3)) hgd s x 37 ho B 3 i (.int .i64 0) 1 8 Ybad.underlying37 hi hz0 hz1 hz2 rfl (by decide) v n xs hs (hown.alloc _) ⟨W.heap.size, 0, none⟩ 1 1 [u] hx (by simp)
    (World.news_of_block (heap_alloc_new W _)) (by simpa using hu) (by omega) (by unfold maxLen; omega) (by omega) (by simp; omega) (W.heap.size + 1) (by simp) ?_
  intro g cap w' hown' hgrow hat hlt
  refine h g cap w' hown' (YbulkdjaiDoor.Grew.ofAlloc ⟨hgrow, ?_⟩)
  rcases hat with hat | hat
  · exact .inl hat.symm
  · exact .inr ⟨g, rfl, by simp; omega⟩

/-- offs and lens as they grow. -/
structure Rows2 (w wr : World) (xs : List (Nat × Nat)) (v38 v39 : Value) : Prop where
  o1 : wr.ownsRow w.heap.size 3 1 v38 xs.length (intsV (xs.map (·.1)))
  o2 : wr.ownsRow w.heap.size 3 1 v39 xs.length (intsV (xs.map (·.2)))
  ap : v39.ownBlock = none ∨ v39.ownBlock ≠ v38.ownBlock
  bel : Below w.heap.size w wr

theorem Rows2.start (w : World) : Rows2 w w [] (.slice none 0 0) (.slice none 0 0) := ⟨World.ownsRow_nil _ _ _ _, World.ownsRow_nil _ _ _ _, .inl rfl, Below.refl _ _⟩
theorem Rows2.draws {w wr : World} {xs : List (Nat × Nat)} {v38 v39 : Value} (h : Rows2 w wr xs v38 v39) (k : Nat) : Rows2 w (wr.drewN k) xs v38 v39 := ⟨h.o1, h.o2, h.ap, h.bel.trans (Joins.below_draws _ _ _)⟩

theorem Rows2.mid {w wr w1 : World} {xs : List (Nat × Nat)} {v38 v39 v' : Value} (h : Rows2 w wr xs v38 v39) (hg : YbulkdjaiDoor.Grew wr w1 v38 v') : w1.ownsRow w.heap.size 3 1 v39 xs.length (intsV (xs.map (·.2))) := h.o2.kept hg.by' h.ap

theorem Rows2.step {w wr w1 w2 : World} {xs : List (Nat × Nat)} {v38 v39 : Value} {g1 c1 g2 c2 p n : Nat} (h : Rows2 w wr xs v38 v39)
    (hown1 : w1.ownsRow w.heap.size 3 1 (.slice (some ⟨g1, 0, none⟩) (xs.length + 1) c1) (xs.length + 1) (intsV (xs.map (·.1)) ++ [.int .i64 (p : Int)])) (hgrow1 : YbulkdjaiDoor.Grew wr w1 v38 (.slice (some ⟨g1, 0, none⟩) (xs.length + 1) c1))
    (hown2 : w2.ownsRow w.heap.size 3 1 (.slice (some ⟨g2, 0, none⟩) (xs.length + 1) c2) (xs.length + 1) (intsV (xs.map (·.2)) ++ [.int .i64 (n : Int)])) (hgrow2 : YbulkdjaiDoor.Grew w1 w2 v39 (.slice (some ⟨g2, 0, none⟩) (xs.length + 1) c2)) :
    Rows2 w w2 (xs ++ [(p, n)]) (.slice (some ⟨g1, 0, none⟩) (xs.length + 1) c1) (.slice (some ⟨g2, 0, none⟩) (xs.length + 1) c2) := by
  have hs := h.bel.size
  have hs1 := hgrow1.size
  have hne : v39.ownBlock ≠ some g1 := by
    intro e
    have hlt := h.o2.lt g1 e
    rcases h.ap with hn | hn
    · rw [hn] at e; cases e
    · exact hgrow1.apart hlt.2 (fun e' => hn (e.trans e'.symm)) rfl
  have hg1 : g1 < w1.heap.size := (hown1.lt g1 rfl).2
  have hne2 : g2 ≠ g1 := hgrow2.apart hg1 hne
  refine ⟨?_, ?_, .inr (by simp [Value.ownBlock]; exact hne2), ?_⟩
  · have k1 := hown1.kept hgrow2.by' (.inr (fun e => hne e.symm))
    rw [List.map_append, List.length_append]
    simpa [intsV] using k1
  · rw [List.map_append, List.length_append]
    simpa [intsV] using hown2
  · exact (h.bel.trans (hgrow1.below hs h.o1)).trans (hgrow2.below (by omega) (h.mid hgrow1))

theorem owns_ints {w : World} {B : Nat} {v : Value} {f : List Nat} (h : w.ownsRow B 3 1 v f.length (intsV f)) : IntsAt w v f := by
  rcases h.2 with ⟨rfl, hn⟩ | ⟨g, cap, cur, rfl, hb, hgg, hnc, hcm, hcs, htake⟩
  · exact ⟨none, 0, by rw [hn], by omega, fun hp => absurd hp (by omega)⟩
  · refine ⟨some ⟨g, 0, none⟩, cap, rfl, hnc, fun _ => ⟨g, rfl, fun i hi => ?_⟩⟩
    have := h.cells (g := g) rfl i (.int .i64 ((f.getD i 0 : Nat) : Int)) (by simp [intsV, List.getElem?_eq_getElem hi])
    rw [Go.WideShapes.add_plain, Nat.zero_add] at this
    exact this

theorem VErr.later {w w' : World} {g V : Nat} {l : List Int} {te : TypeId} {ve v36 : Value} (h : VErr w g V l te ve v36) (hb : Below w.heap.size w w') : VErr w' g V l te ve v36 := by
  rcases h with ⟨a, b, c⟩ | ⟨xs, M, a, b, c, d⟩
  · exact .inl ⟨a, b, stays hb _ _ c⟩
  · refine .inr ⟨xs, M, a, b, stays hb _ _ c, ?_⟩
    obtain ⟨cs, q1, q2, q3⟩ := d
    exact ⟨cs, stays hb _ _ q1, q2, q3⟩
theorem Reads.later {w w' : World} {g : Nat} {l : List Int} (h : Reads w g l) (hb : Below w.heap.size w w') : Reads w' g l := fun j hj => (hb.cell (p := ⟨g, j, none⟩) (block_lt_of_cell (h j hj))).trans (h j hj)

theorem or_len (a b : Nat) (ha : a < 256) (hb : b < 256) : bits BinOp.or IntKind.i64 ((a : Int) * 256) (b : Int) = (a : Int) * 256 + (b : Int) := by
  have h := (bits_nat .i64 63 (by decide) (fun n h0 h1 => wrap_small n (by omega) (by omega)) (a * 2 ^ 8) b (by omega) (by omega)).2
  rw [Nat.mul_comm, ← Nat.two_pow_add_eq_or_of_lt (by omega)] at h
  have e : ((2 ^ 8 * a : Nat) : Int) = (a : Int) * 256 := by simp [Int.mul_comm]
  have e2 : ((2 ^ 8 * a + b : Nat) : Int) = (a : Int) * 256 + (b : Int) := by simp [Int.mul_comm]
  rw [e, e2] at h
  exact h

set_option maxHeartbeats 4000000 in
set_option maxRecDepth 100000 in
theorem piece46 {c0 c1 c2 c3 c4 c5 c6 c7 c8 c9 c10 c11 c12 c13 c14 c15 c16 c17 c18 c19 c20 c21 c22 c23 c24 c25 c26 c27 c29 c30 c31 c32 c33 c34 c37 c38 c39 c40 c41 c42 c43 c44 c45 c46 c47 c48 c49 c50 c51 c52 c53 c54 c55 c56 c57 c58 c59 c60 c61 c62 c63 c64 c65 c66 c67 c68 c69 c70 c71 c72 c73 c74 c75 c76 c77 c78 c79 c80 c81 c82 c83 c84 c85 c86 c87 c88 c89 c90 c91 c92 c93 c94 c95 c96 c97 c98 c99 c100 c101 c102 c103 c104 c105 c106 c107 c108 c109 c110 c111 c112 c113 c114 c115 c116 c117 c118 c119 c120 c121 c122 c123 c124 c125 c126 c127 c128 c129 c130 c131 c132 c133 c134 c135 c136 c137 c138 c139 c140 c141 c142 c143 c144 c145 c146 c147 c148 c149 c150 c151 c152 c153 c154 c155 c156 c157 c158 c159 c160 c161 c162 c163 c164 c165 c166 c167 c168 c169 c170 c171 c172 c173 c174 c175 c176 c177 c178 c179 c180 c181 c182 c183 c184 c185 c186 c187 c188 c189 c190 c191 c192 c193 c194 c195 c196 c197 c198 c199 c200 c201 c202 c203 c204 c205 c206 c207 c208 c209 c210 c211 c212 c213 c214 c215 c216 c217 c218 c219 c220 c221 c222 c223 c224 c225 c226 c227 c228 c229 c230 c231 c232 c233 c234 c235 c236 c237 c238 c239 c240 c241 c242 c243 c244 c245 c246 c247 c248 c249 c250 c251 c252 c253 c254 c255 c256 c257 c258 c259 c260 c261 c262 c263 c264 c265 c266 c267 c268 c269 c270 c271 c272 c273 c274 c275 c276 c277 c278 c279 c280 c281 c282 c283 c284 c285 c286 c287 c288 c289 c290 c291 c292 c293 c294 c295 c296 c297 c298 c299 c300 c301 c302 c303 c304 c305 c306 c307 c308 c309 c310 c311 c312 c313 c314 c315 c316 c317 c318 c319 c320 c321 c322 c323 c324 c325 c326 c327 c328 c329 c330 c331 c332 c333 c334 c335 c336 c337 c338 c339 c340 c341 c342 c343 c344 c345 c346 c347 c348 c349 c350 c351 c352 c353 c354 c355 c356 c357 c358 c359 c360 c361 c362 c363 c364 c365 c366 c367 c368 c369 c370 c371 c372 c373 c374 c375 c376 c377 c378 c379 c380 c381 c382 c383 c384 c385 c386 c387 c388 c389 c390 c391 c392 c393 c394 c395 c396 c397 c398 c399 c400 c401 c402 c403 c404 c405 c406 c407 c408 c409 : Value} (w0 w : World) (g cap V : Nat) (l : List Int) (v36 : Value) (te : TypeId) (ve : Value) (hEq : ∀ W, (binOp .eql 33 (.iface te ve) (.iface te ve)).run Ybad.prog W = .ok (.bool true) W)
    (hE : w.cell? ⟨0, 0, none⟩ = some (.iface te ve)) (hby : Byt l) (hn : l.length ≤ cap) (hn7 : l.length ≤ 10000000) (hr : Reads w g l) (hV : VErr w g V l te ve v36) (hbel : Below w0.heap.size w0 w) :
    Code.wp Ybad.prog ((Ybad.f3.body.bind (fromR 46)).getD .skip) (bodyPost Ybad.prog Ybad.f3 (Good w0)) ⟨List.toArray (c0 :: c1 :: c2 :: c3 :: c4 :: c5 :: c6 :: c7 :: c8 :: c9 :: c10 :: c11 :: c12 :: c13 :: c14 :: c15 :: c16 :: c17 :: c18 :: c19 :: c20 :: c21 :: c22 :: c23 :: c24 :: c25 :: c26 :: c27 :: (.slice (some ⟨g, 0, none⟩) l.length cap) :: c29 :: c30 :: c31 :: c32 :: c33 :: c34 :: (.pointer (some ⟨V, 0, none⟩)) :: (v36) :: c37 :: c38 :: c39 :: c40 :: c41 :: c42 :: c43 :: c44 :: c45 :: c46 :: c47 :: c48 :: c49 :: c50 :: c51 :: c52 :: c53 :: c54 :: c55 :: c56 :: c57 :: c58 :: c59 :: c60 :: c61 :: c62 :: c63 :: c64 :: c65 :: c66 :: c67 :: c68 :: c69 :: c70 :: c71 :: c72 :: c73 :: c74 :: c75 :: c76 :: c77 :: c78 :: c79 :: c80 :: c81 :: c82 :: c83 :: c84 :: c85 :: c86 :: c87 :: c88 :: c89 :: c90 :: c91 :: c92 :: c93 :: c94 :: c95 :: c96 :: c97 :: c98 :: c99 :: c100 :: c101 :: c102 :: c103 :: c104 :: c105 :: c106 :: c107 :: c108 :: c109 :: c110 :: c111 :: c112 :: c113 :: c114 :: c115 :: c116 :: c117 :: c118 :: c119 :: c120 :: c121 :: c122 :: c123 :: c124 :: c125 :: c126 :: c127 :: c128 :: c129 :: c130 :: c131 :: c132 :: c133 :: c134 :: c135 :: c136 :: c137 :: c138 :: c139 :: c140 :: c141 :: c142 :: c143 :: c144 :: c145 :: c146 :: c147 :: c148 :: c149 :: c150 :: c151 :: c152 :: c153 :: c154 :: c155 :: c156 :: c157 :: c158 :: c159 :: c160 :: c161 :: c162 :: c163 :: c164 :: c165 :: c166 :: c167 :: c168 :: c169 :: c170 :: c171 :: c172 :: c173 :: c174 :: c175 :: c176 :: c177 :: c178 :: c179 :: c180 :: c181 :: c182 :: c183 :: c184 :: c185 :: c186 :: c187 :: c188 :: c189 :: c190 :: c191 :: c192 :: c193 :: c194 :: c195 :: c196 :: c197 :: c198 :: c199 :: c200 :: c201 :: c202 :: c203 :: c204 :: c205 :: c206 :: c207 :: c208 :: c209 :: c210 :: c211 :: c212 :: c213 :: c214 :: c215 :: c216 :: c217 :: c218 :: c219 :: c220 :: c221 :: c222 :: c223 :: c224 :: c225 :: c226 :: c227 :: c228 :: c229 :: c230 :: c231 :: c232 :: c233 :: c234 :: c235 :: c236 :: c237 :: c238 :: c239 :: c240 :: c241 :: c242 :: c243 :: c244 :: c245 :: c246 :: c247 :: c248 :: c249 :: c250 :: c251 :: c252 :: c253 :: c254 :: c255 :: c256 :: c257 :: c258 :: c259 :: c260 :: c261 :: c262 :: c263 :: c264 :: c265 :: c266 :: c267 :: c268 :: c269 :: c270 :: c271 :: c272 :: c273 :: c274 :: c275 :: c276 :: c277 :: c278 :: c279 :: c280 :: c281 :: c282 :: c283 :: c284 :: c285 :: c286 :: c287 :: c288 :: c289 :: c290 :: c291 :: c292 :: c293 :: c294 :: c295 :: c296 :: c297 :: c298 :: c299 :: c300 :: c301 :: c302 :: c303 :: c304 :: c305 :: c306 :: c307 :: c308 :: c309 :: c310 :: c311 :: c312 :: c313 :: c314 :: c315 :: c316 :: c317 :: c318 :: c319 :: c320 :: c321 :: c322 :: c323 :: c324 :: c325 :: c326 :: c327 :: c328 :: c329 :: c330 :: c331 :: c332 :: c333 :: c334 :: c335 :: c336 :: c337 :: c338 :: c339 :: c340 :: c341 :: c342 :: c343 :: c344 :: c345 :: c346 :: c347 :: c348 :: c349 :: c350 :: c351 :: c352 :: c353 :: c354 :: c355 :: c356 :: c357 :: c358 :: c359 :: c360 :: c361 :: c362 :: c363 :: c364 :: c365 :: c366 :: c367 :: c368 :: c369 :: c370 :: c371 :: c372 :: c373 :: c374 :: c375 :: c376 :: c377 :: c378 :: c379 :: c380 :: c381 :: c382 :: c383 :: c384 :: c385 :: c386 :: c387 :: c388 :: c389 :: c390 :: c391 :: c392 :: c393 :: c394 :: c395 :: c396 :: c397 :: c398 :: c399 :: c400 :: c401 :: c402 :: c403 :: c404 :: c405 :: c406 :: c407 :: c408 :: c409 :: []), []⟩ w := by
  have hz0 := hbel.size
  have HR := hide hr
  have HBEL := hide hbel
  have HE := hide hE
  have HV := hide hV
  have HBY := hide hby
  have HEQ := hide hEq
  clear hbel hE hV hEq
  by_cases h139 : l.length < 139
  · clear hr hby
    have hd : decide ((139 : Int) ≤ (l.length : Int)) = false := by simp; omega
    show Code.wp _ (Code.seq _ _) _ _ _
    go_upto_region 48 with fail
    rename_i K1 hK1 K2 hK2
    have HK1 := hide hK1
    clear hK1
    go_wp2_with fail
    exact HK1.out _ _ (piece60 w0 w g cap V l false _ _ _ te ve HEQ.out HE.out HBY.out hn hn7 HR.out (.inl ⟨rfl, by unfold verdict; rw [if_pos (.inl h139)]⟩) HV.out HBEL.out)
  · have hd : decide ((139 : Int) ≤ (l.length : Int)) = true := by simp; omega
    have cell0 := hr 0 (by omega)
    by_cases h16 : l.getD 0 0 = 16
    · rw [h16] at cell0
      clear hr hby
      show Code.wp _ (Code.seq _ _) _ _ _
      go_upto_region 48 with fail
      rename_i K1 hK1 K2 hK2
      have HK1 := hide hK1
      clear hK1
      go_wp2_with fail
      obtain ⟨VV, HVV⟩ : ∃ V, Hid (V = scan l (l.length + 1) 139) := ⟨_, rfl⟩
      have HAT0 := hide (At.start l 139 (by omega))
      rw [← HVV.out] at HAT0
      go_loopw [37, 38, 39, 40] (fun s37 s38 s39 s40 wr => ∃ (p : Nat) (xs : List (Nat × Nat)), s37 = .bool true ∧ s40 = .int .i64 p ∧ At l VV p xs ∧ xs.length ≤ p ∧ Rows2 w wr xs s38 s39) (fun _ _ _ s40 _ => (l.length - intOf s40).toNat)
      case atStart => exact ⟨139, [], rfl, rfl, HAT0.out, by simp, Rows2.start w⟩
      case round =>
        obtain ⟨p, xs, rfl, rfl, hat, hxp, hrows⟩ := hrel
        have hpl := hat.few
        have hb0 := HBY.out.getD p
        have hb1 := HBY.out.getD (p + 1)
        have HAT := hide hat
        have HROWS := hide hrows
        clear hat hrows
        by_cases hend : p = l.length
        · subst hend
          have hV := HAT.out.done (Nat.le_refl _)
          rw [HVV.out] at hV
          have HSC := hide hV
          clear hV
          go_wp2_with fail
          have hb2 := HROWS.out.bel
          exact HK1.out _ _ (piece60 w0 wr g cap V l true _ _ _ te ve HEQ.out ((hb2.cell (block_lt_of_cell HE.out)).trans HE.out) HBY.out hn hn7 (HR.out.later hb2) (.inr ⟨rfl, by omega, h16, xs, HSC.out, owns_ints (by simpa using HROWS.out.o1), owns_ints (by simpa using HROWS.out.o2)⟩) (HV.out.later hb2) (HBEL.out.trans (hb2.mono hz0)))
        · have hd1 : decide ((p : Int) < (l.length : Int)) = true := by simp; omega
          have hw1 : IntKind.i64.wrap ((l.length : Int) - (p : Int)) = (l.length : Int) - (p : Int) := wrap_small _ (by omega) (by omega)
          by_cases hsh : l.length < p + 2
          · have HN := hide (HAT.out.short (by omega) hsh)
            have hd2 : decide ((l.length : Int) - (p : Int) < 2) = true := by simp; omega
            go_wp2_with fail
            have hb2 := HROWS.out.bel
            exact HK1.out _ _ (piece60 w0 wr g cap V l false _ _ _ te ve HEQ.out ((hb2.cell (block_lt_of_cell HE.out)).trans HE.out) HBY.out hn hn7 (HR.out.later hb2) (.inl ⟨rfl, by unfold verdict; split; rfl; rw [← HVV.out]; exact HN.out⟩) (HV.out.later hb2) (HBEL.out.trans (hb2.mono hz0)))
          · have hd2 : decide ((l.length : Int) - (p : Int) < 2) = false := by simp; omega
            have hb2 := HROWS.out.bel
            have k0 := (hb2.cell (block_lt_of_cell (HR.out p (by omega)))).trans (HR.out p (by omega))
            have k1 := (hb2.cell (block_lt_of_cell (HR.out (p + 1) (by omega)))).trans (HR.out (p + 1) (by omega))
            have hnum := num_eq HBY.out p
            have HK2 := hide (fun (h : p + 2 < l.length) => (hb2.cell (block_lt_of_cell (HR.out (p + 2) h))).trans (HR.out (p + 2) h))
            clear hb2
            obtain ⟨N, HN⟩ : ∃ N, Hid (N = num l p) := ⟨_, rfl⟩
            rw [← HN.out] at hnum
            obtain ⟨x0, X0⟩ : ∃ x, Hid (x = l.getD p 0) := ⟨_, rfl⟩
            obtain ⟨x1, X1⟩ : ∃ x, Hid (x = l.getD (p + 1) 0) := ⟨_, rfl⟩
            rw [← X0.out] at k0 hnum hb0
            rw [← X1.out] at k1 hnum hb1
            obtain ⟨hb0a, hb0b⟩ := hb0
            obtain ⟨hb1a, hb1b⟩ := hb1
            obtain ⟨x0, rfl⟩ := Int.eq_ofNat_of_zero_le hb0a
            obtain ⟨x1, rfl⟩ := Int.eq_ofNat_of_zero_le hb1a
            obtain ⟨hnum, hN16⟩ := hnum
            have hor := or_len x0 x1 (by omega) (by omega)
            have hor2 : (x0 : Int) * 256 + (x1 : Int) = (N : Int) := by omega
            rw [hor2] at hor
            have i1 : (p : Int) < (l.length : Int) := by omega
            have i2 : (p : Int) + 1 < (l.length : Int) := by omega
            have hw2 : IntKind.i64.wrap ((p : Int) + 1) = (p : Int) + 1 := wrap_small _ (by omega) (by omega)
            have hw3 : IntKind.i64.wrap ((x0 : Int) * 256) = (x0 : Int) * 256 := wrap_small _ (by omega) (by omega)
            have hw4 : IntKind.i64.wrap ((p : Int) + 2) = (p : Int) + 2 := wrap_small _ (by omega) (by omega)
            have hw5 : IntKind.i64.wrap ((l.length : Int) - ((p : Int) + 2)) = (l.length : Int) - ((p : Int) + 2) := wrap_small _ (by omega) (by omega)
            go_wp2_with fail
            go_quiet (fail)
            by_cases hN0 : N = 0
            · have HNO := hide (HAT.out.bad (by omega) (.inl (by rw [← HN.out]; exact hN0)))
              have hz : ((N : Int) == 0) = true := by rw [beq_iff_eq]; omega
              go_wp2_with fail
              have hb2 := (HROWS.out.draws nq).bel
              exact HK1.out _ _ (piece60 w0 (wr.drewN nq) g cap V l false _ _ _ te ve HEQ.out ((hb2.cell (block_lt_of_cell HE.out)).trans HE.out) HBY.out hn hn7 (HR.out.later hb2) (.inl ⟨rfl, by unfold verdict; split; rfl; rw [← HVV.out]; exact HNO.out⟩) (HV.out.later hb2) (HBEL.out.trans (hb2.mono hz0)))
            · have hz : ((N : Int) == 0) = false := by rw [beq_eq_false_iff_ne]; omega
              by_cases hbig : l.length - (p + 2) < N
              · have HNO := hide (HAT.out.bad (by omega) (.inr (.inl (by rw [← HN.out]; omega))))
                have hgt : decide ((l.length : Int) - ((p : Int) + 2) < (N : Int)) = true := by simp; omega
                go_wp2_with fail
                have hb2 := (HROWS.out.draws nq).bel
                exact HK1.out _ _ (piece60 w0 (wr.drewN nq) g cap V l false _ _ _ te ve HEQ.out ((hb2.cell (block_lt_of_cell HE.out)).trans HE.out) HBY.out hn hn7 (HR.out.later hb2) (.inl ⟨rfl, by unfold verdict; split; rfl; rw [← HVV.out]; exact HNO.out⟩) (HV.out.later hb2) (HBEL.out.trans (hb2.mono hz0)))
              · have hgt : decide ((l.length : Int) - ((p : Int) + 2) < (N : Int)) = false := by simp; omega
                have k2 := HK2.out (by omega)
                have i3 : (p : Int) + 2 < (l.length : Int) := by omega
                obtain ⟨y, HY⟩ : ∃ y, Hid (y = l.getD (p + 2) 0) := ⟨_, rfl⟩
                rw [← HY.out] at k2
                go_wp2_with fail
                refine (ok_any _ _).mono ?_
                rintro e w3 ⟨rfl, rfl⟩
                cases hok : okK y with
                | false =>
                  have HNO := hide (HAT.out.bad (by omega) (.inr (.inr (by rw [← HY.out]; exact hok))))
                  go_wp2_with fail
                  have hb2 := (HROWS.out.draws nq).bel
                  exact HK1.out _ _ (piece60 w0 (wr.drewN nq) g cap V l false _ _ _ te ve HEQ.out ((hb2.cell (block_lt_of_cell HE.out)).trans HE.out) HBY.out hn hn7 (HR.out.later hb2) (.inl ⟨rfl, by unfold verdict; split; rfl; rw [← HVV.out]; exact HNO.out⟩) (HV.out.later hb2) (HBEL.out.trans (hb2.mono hz0)))
                | true =>
                  have hnx := HAT.out.next (by omega) (by rw [← HN.out]; omega) (by rw [← HN.out]; omega) (by rw [← HY.out]; exact hok)
                  rw [← HN.out] at hnx
                  have HNX := hide hnx
                  have o38 := (HROWS.out.draws nq).o1
                  have HR2 := hide (HROWS.out.draws nq)
                  have hsw := (HROWS.out.draws nq).bel.size
                  clear hnx k2
                  go_upto_region 58 with (at_builtin; go_must (refine wpList_app_int (wr.drewN nq) rfl _ _ rfl w.heap.size u38 xs.length _ (by rfl) o38 wr.heap.size rfl _ rfl (by rfl) (by omega) hsw ?_); intro g1 c1 w1 hown1 hgrow1)
                  have o39 := HR2.out.mid hgrow1
                  have hsw1 : w.heap.size ≤ w1.heap.size := Nat.le_trans hsw hgrow1.size
                  have HO1 := hide hown1
                  have HG1 := hide hgrow1
                  clear hown1 hgrow1 o38
                  go_wp2_with (at_builtin; go_must (refine wpList_app_int w1 rfl _ _ rfl w.heap.size u39 xs.length _ (by rfl) o39 w1.heap.size rfl _ rfl (by rfl) (by omega) hsw1 ?_); intro g2 c2 w2 hown2 hgrow2)
                  have HR3 := hide (HR2.out.step (p := p + 2) (n := N) (by simpa using HO1.out) HG1.out hown2 hgrow2)
                  clear hown2 hgrow2 o39
                  go_wp2_with fail
                  go_roundw
                  case rel => exact ⟨p + 2 + N, xs ++ [(p + 2, N)], rfl, by simp, HNX.out, by simp; omega, HR3.out⟩
                  case measure => simp [intOf]; omega
    · have hk2 : (l.getD 0 0 == 16) = false := by rw [beq_eq_false_iff_ne]; exact h16
      have HN16 := hide h16
      clear hr hby h16
      obtain ⟨x, HX⟩ : ∃ x, Hid (x = l.getD 0 0) := ⟨_, rfl⟩
      rw [← HX.out] at cell0 hk2
      show Code.wp _ (Code.seq _ _) _ _ _
      go_upto_region 48 with fail
      rename_i K1 hK1 K2 hK2
      have HK1 := hide hK1
      clear hK1
      go_wp2_with fail
      exact HK1.out _ _ (piece60 w0 w g cap V l false _ _ _ te ve HEQ.out HE.out HBY.out hn hn7 HR.out (.inl ⟨rfl, by unfold verdict; rw [if_pos (.inr (.inl HN16.out))]⟩) HV.out HBEL.out)
end Go.Proofs.YbulkdjaiDoor.B
