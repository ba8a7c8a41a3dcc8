import Derived.Test.Qxb6617558aDa
namespace Go.Proofs.Qxb6617558a
open Go.RowKit Go.Maps
set_option linter.unusedVariables false
def BytesPost (e : Ending) (w w' : World) : Prop := ∃ b, e = .returned (.bool b) ∧ Below w.heap.size w w'
theorem bytes_ret {w w' : World} (b : Bool) (h : Below w.heap.size w w') : BytesPost (.returned (.bool b)) w w' := ⟨b, rfl, h⟩
def headId : Code → Option Nat
  | .region i _ _ => some i
  | .seq a _ => headId a
  | _ => none
def sufx (n : Nat) : Code → Option Code
  | .seq a b => if headId a = some n then some (.seq a b) else sufx n b
  | _ => none
def q1 : Code → Code
  | .seq (.seq a _) _ => a
  | _ => .skip
def q2 : Code → Code
  | .seq (.seq _ b) _ => b
  | _ => .skip
def q3 : Code → Code
  | .seq _ c => c
  | _ => .skip
set_option maxHeartbeats 8000000 in
set_option maxRecDepth 100000 in
theorem bytes_second (M : Loc) (y : Ta) (w wk : World) (B B1 : Nat) (q0 : Int) (c0 c1 c2 c4 c6 c7 c8 c9 c10 c11 c12 c13 c14 c15 c16 c17 c18 c19 c20 c21 c22 c23 c24 c25 c26 c27 c28 c29 c30 c31 c32 c33 c34 c35 c36 c37 c38 c39 c40 c41 c42 c43 c44 c45 c46 c47 c48 c49 c50 c51 c52 c53 c54 c55 c56 c57 c58 c59 c60 c61 c62 c63 c64 c65 c66 c67 c68 c69 c70 c71 c72 c73 c74 c75 c76 c77 c78 c79 c80 c81 c82 c83 c84 c85 c86 c87 c88 c89 c90 c91 c92 c93 c94 c95 c96 c97 c98 c99 c100 c101 c102 c103 c104 c105 c106 c107 c108 c109 c110 c111 c112 c113 c114 c115 c116 c117 c118 c119 c120 c121 c122 c123 c124 c125 c126 c127 c128 c129 c130 c131 c132 c133 c134 c135 c136 c137 c138 c139 c140 c141 c142 c143 c144 c145 c146 c147 c148 c149 c150 c151 c152 c153 c154 c155 c156 c157 c158 c159 c160 c161 c162 c163 c164 c165 c166 c167 c168 c169 c170 c171 c172 c173 c174 c175 c176 c177 c178 c179 c180 c181 c182 c183 c184 c185 c186 c187 c188 c189 c190 c191 c192 c193 c194 c195 c196 c197 c198 c199 c200 c201 c202 c203 c204 c205 c206 c207 c208 c209 c210 c211 c212 c213 c214 c215 c216 c217 c218 c219 c220 c221 c222 c223 c224 c225 c226 c227 c228 c229 c230 c231 c232 c233 c234 c235 c236 c237 c238 c239 c240 c241 c242 c243 c244 c245 c246 c247 c248 c249 c250 c251 c252 c253 c254 c255 c256 c257 c258 c259 c260 c261 c262 c263 c264 c265 c266 c267 c268 c269 c270 c271 c272 c273 c274 c275 c276 c277 c278 c279 c280 c281 c282 c283 c284 c285 c286 c287 c288 c289 c290 c291 c292 c293 c294 c295 c296 c297 c298 c299 c300 c301 c302 c303 c304 c305 c306 c307 c308 c309 c310 c311 c312 c313 c314 c315 c316 c317 c318 c319 c320 c321 c322 c323 c324 c325 c326 c327 c328 c329 c330 c331 c332 c333 c334 c335 c336 c337 c338 c339 c340 c341 c342 c343 c344 c345 c346 c347 c348 c349 c350 c351 c352 c353 c354 c355 c356 c357 c358 c359 c360 c361 c362 c363 c364 c365 c366 c367 c368 c369 c370 c371 c372 c373 c374 c375 c376 c377 c378 c379 c380 c381 c382 c383 c384 c385 c386 c387 c388 c389 c390 c391 c392 c393 c394 c395 c396 c397 c398 c399 c400 c401 c402 c403 c404 c405 c406 c407 c408 c409 c410 c411 c412 c413 c414 c415 c416 c417 c418 c419 c420 c421 c422 c423 c424 c425 c426 c427 c428 c429 c430 c431 c432 c433 c434 c435 c436 c437 c438 c439 c440 c441 : Value) (K K1 : Act → World → Prop)
    (hK1 : ∀ (a : Act) (w' : World), Code.wp Try.prog (q3 ((Try.f4.body.bind (sufx 61)).getD .skip)) (bodyPost Try.prog Try.f4 fun e w' => BytesPost e w w') a w' → K1 a w')
    (hK : ∀ (a : Act) (w' : World), Code.wp Try.prog (q2 ((Try.f4.body.bind (sufx 61)).getD .skip)) (Exit.then K1 (bodyPost Try.prog Try.f4 fun e w' => BytesPost e w w')) a w' → K a w')
    (hBn : w.heap.size = B) (HB : Hid (Below B w wk)) (HY : Hid (Arg wk M y)) (HP : Hid y.Ok) (hyn : y.n ≤ 9223372036854775807) (hym : y.m ≤ 9223372036854775807) (q0a : 0 ≤ q0) (q0b : q0 ≤ 1048576)
    (e0 : wk.cell? ⟨B1, 0, none⟩ = some (.slice M.sa y.n M.sc)) (e1 : wk.cell? ⟨B1, 1, none⟩ = some (.slice M.va y.m M.vc)) :
    Code.wp Try.prog (q1 ((Try.f4.body.bind (sufx 61)).getD .skip)) (Exit.then K (Exit.then K1 (bodyPost Try.prog Try.f4 fun e w' => BytesPost e w w'))) ⟨List.toArray (c0 :: c1 :: c2 :: (.pointer (some ⟨B1, 0, none⟩)) :: c4 :: (.int .i64 q0) :: c6 :: c7 :: c8 :: c9 :: c10 :: c11 :: c12 :: c13 :: c14 :: c15 :: c16 :: c17 :: c18 :: c19 :: c20 :: c21 :: c22 :: c23 :: c24 :: c25 :: c26 :: c27 :: c28 :: c29 :: c30 :: c31 :: c32 :: c33 :: c34 :: c35 :: c36 :: c37 :: c38 :: c39 :: c40 :: c41 :: c42 :: c43 :: c44 :: c45 :: c46 :: c47 :: c48 :: c49 :: c50 :: c51 :: c52 :: c53 :: c54 :: c55 :: c56 :: c57 :: c58 :: c59 :: c60 :: c61 :: c62 :: c63 :: c64 :: c65 :: c66 :: c67 :: c68 :: c69 :: c70 :: c71 :: c72 :: c73 :: c74 :: c75 :: c76 :: c77 :: c78 :: c79 :: c80 :: c81 :: c82 :: c83 :: c84 :: c85 :: c86 :: c87 :: c88 :: c89 :: c90 :: c91 :: c92 :: c93 :: c94 :: c95 :: c96 :: c97 :: c98 :: c99 :: c100 :: c101 :: c102 :: c103 :: c104 :: c105 :: c106 :: c107 :: c108 :: c109 :: c110 :: c111 :: c112 :: c113 :: c114 :: c115 :: c116 :: c117 :: c118 :: c119 :: c120 :: c121 :: c122 :: c123 :: c124 :: c125 :: c126 :: c127 :: c128 :: c129 :: c130 :: c131 :: c132 :: c133 :: c134 :: c135 :: c136 :: c137 :: c138 :: c139 :: c140 :: c141 :: c142 :: c143 :: c144 :: c145 :: c146 :: c147 :: c148 :: c149 :: c150 :: c151 :: c152 :: c153 :: c154 :: c155 :: c156 :: c157 :: c158 :: c159 :: c160 :: c161 :: c162 :: c163 :: c164 :: c165 :: c166 :: c167 :: c168 :: c169 :: c170 :: c171 :: c172 :: c173 :: c174 :: c175 :: c176 :: c177 :: c178 :: c179 :: c180 :: c181 :: c182 :: c183 :: c184 :: c185 :: c186 :: c187 :: c188 :: c189 :: c190 :: c191 :: c192 :: c193 :: c194 :: c195 :: c196 :: c197 :: c198 :: c199 :: c200 :: c201 :: c202 :: c203 :: c204 :: c205 :: c206 :: c207 :: c208 :: c209 :: c210 :: c211 :: c212 :: c213 :: c214 :: c215 :: c216 :: c217 :: c218 :: c219 :: c220 :: c221 :: c222 :: c223 :: c224 :: c225 :: c226 :: c227 :: c228 :: c229 :: c230 :: c231 :: c232 :: c233 :: c234 :: c235 :: c236 :: c237 :: c238 :: c239 :: c240 :: c241 :: c242 :: c243 :: c244 :: c245 :: c246 :: c247 :: c248 :: c249 :: c250 :: c251 :: c252 :: c253 :: c254 :: c255 :: c256 :: c257 :: c258 :: c259 :: c260 :: c261 :: c262 :: c263 :: c264 :: c265 :: c266 :: c267 :: c268 :: c269 :: c270 :: c271 :: c272 :: c273 :: c274 :: c275 :: c276 :: c277 :: c278 :: c279 :: c280 :: c281 :: c282 :: c283 :: c284 :: c285 :: c286 :: c287 :: c288 :: c289 :: c290 :: c291 :: c292 :: c293 :: c294 :: c295 :: c296 :: c297 :: c298 :: c299 :: c300 :: c301 :: c302 :: c303 :: c304 :: c305 :: c306 :: c307 :: c308 :: c309 :: c310 :: c311 :: c312 :: c313 :: c314 :: c315 :: c316 :: c317 :: c318 :: c319 :: c320 :: c321 :: c322 :: c323 :: c324 :: c325 :: c326 :: c327 :: c328 :: c329 :: c330 :: c331 :: c332 :: c333 :: c334 :: c335 :: c336 :: c337 :: c338 :: c339 :: c340 :: c341 :: c342 :: c343 :: c344 :: c345 :: c346 :: c347 :: c348 :: c349 :: c350 :: c351 :: c352 :: c353 :: c354 :: c355 :: c356 :: c357 :: c358 :: c359 :: c360 :: c361 :: c362 :: c363 :: c364 :: c365 :: c366 :: c367 :: c368 :: c369 :: c370 :: c371 :: c372 :: c373 :: c374 :: c375 :: c376 :: c377 :: c378 :: c379 :: c380 :: c381 :: c382 :: c383 :: c384 :: c385 :: c386 :: c387 :: c388 :: c389 :: c390 :: c391 :: c392 :: c393 :: c394 :: c395 :: c396 :: c397 :: c398 :: c399 :: c400 :: c401 :: c402 :: c403 :: c404 :: c405 :: c406 :: c407 :: c408 :: c409 :: c410 :: c411 :: c412 :: c413 :: c414 :: c415 :: c416 :: c417 :: c418 :: c419 :: c420 :: c421 :: c422 :: c423 :: c424 :: c425 :: c426 :: c427 :: c428 :: c429 :: c430 :: c431 :: c432 :: c433 :: c434 :: c435 :: c436 :: c437 :: c438 :: c439 :: c440 :: c441 :: []), []⟩ wk := by
  conv => arg 2; whnf
  conv at hK1 => enter [a, w', 1]; arg 2; whnf
  conv at hK => enter [a, w', 1]; arg 2; whnf
  by_cases hA101 : 1048576 < y.n
  · go_wp2
    go_ret
    exact bytes_ret false (hBn ▸ unhide HB)
  · have hAb101 : decide ((1048576 : Int) < (y.n : Int)) = false := by simp; omega
    go_upto_region 64 with fail
    by_cases hD101 : 1048576 < q0 + (y.n : Int)
    · go_wp2
      go_ret
      exact bytes_ret false (hBn ▸ unhide HB)
    · have hDb101 : decide (1048576 < q0 + (y.n : Int)) = false := by simp; omega
      go_wp2
      go_loopw [5, 9] (fun a i wr => ∃ (q : Int) (k : Nat), a = .int .i64 q ∧ 0 ≤ q ∧ q ≤ 1048576 ∧ k ≤ y.n ∧ i = .int .i64 k ∧ wk = wr) (fun _ i _ => y.n - (intOf i).toNat)
      case atStart => exact ⟨(q0 + (y.n : Int)), 0, by first | rfl | simp, by omega, by omega, Nat.zero_le _, rfl, rfl⟩
      case round =>
        clear hAb101 hDb101
        obtain ⟨qb1, kb1, rfl, qb1a, qb1b, kb1a, rfl, rfl⟩ := hrel
        by_cases kb1l : kb1 < y.n
        · obtain ⟨b, o, ea, s1, s2⟩ := (unhide HY).s kb1 kb1l
          have d0 := e0
          rw [ea] at d0
          have hsz : (y.src kb1).size ≤ 9223372036854775807 := by have := (unhide HP).src kb1 kb1l; unfold maxLen at this; omega
          clear ea e0 s2
          go_upto_region 69 with fail
          by_cases hA102 : 1048576 < (y.src kb1).size
          · go_wp2
            go_ret
            exact bytes_ret false (hBn ▸ unhide HB)
          · have hAb102 : decide ((1048576 : Int) < (((y.src kb1).size : Nat) : Int)) = false := by simp; omega
            go_upto_region 72 with fail
            by_cases hD102 : 1048576 < qb1 + (((y.src kb1).size : Nat) : Int)
            · go_wp2
              go_ret
              exact bytes_ret false (hBn ▸ unhide HB)
            · have hDb102 : decide (1048576 < qb1 + (((y.src kb1).size : Nat) : Int)) = false := by simp; omega
              go_wp2
              exact ⟨⟨_, kb1 + 1, rfl, by omega, by omega, by omega, by go_num, by first | rfl | trivial⟩, by simp [intOf]; omega⟩
        · go_upto_region 74 with fail
          by_cases hA103 : 1048576 < y.m
          · go_wp2
            go_ret
            exact bytes_ret false (hBn ▸ unhide HB)
          · have hAb103 : decide ((1048576 : Int) < (y.m : Int)) = false := by simp; omega
            go_upto_region 77 with fail
            by_cases hD103 : 1048576 < qb1 + (y.m : Int)
            · go_wp2
              go_ret
              exact bytes_ret false (hBn ▸ unhide HB)
            · have hDb103 : decide (1048576 < qb1 + (y.m : Int)) = false := by simp; omega
              go_wp2
              go_loopw [5, 10] (fun a i wr => ∃ (q : Int) (k : Nat), a = .int .i64 q ∧ 0 ≤ q ∧ q ≤ 1048576 ∧ k ≤ y.m ∧ i = .int .i64 k ∧ wk = wr) (fun _ i _ => y.m - (intOf i).toNat)
              case atStart => exact ⟨_, 0, rfl, by omega, by omega, Nat.zero_le _, rfl, rfl⟩
              case round =>
                clear hAb103 hDb103
                obtain ⟨qb2, kb2, rfl, qb2a, qb2b, kb2a, rfl, rfl⟩ := hrel
                by_cases kb2l : kb2 < y.m
                · obtain ⟨b, o, ea, s1⟩ := (unhide HY).v kb2 kb2l
                  have d1 := e1
                  rw [ea] at d1
                  have v0 := s1 0 (by decide)
                  have v1 := s1 1 (by decide)
                  have v3 := s1 3 (by decide)
                  have v4 := s1 4 (by decide)
                  have v5 := s1 5 (by decide)
                  simp [vcell] at v0 v1 v3 v4 v5
                  have z0 : (y.vm kb2).src.size ≤ 9223372036854775807 := by have := ((unhide HP).vm kb2 kb2l).src; unfold maxLen at this; omega
                  have z1 : (y.vm kb2).id.size ≤ 9223372036854775807 := by have := ((unhide HP).vm kb2 kb2l).id; unfold maxLen at this; omega
                  have z2 : (y.vm kb2).nm.size ≤ 9223372036854775807 := by have := ((unhide HP).vm kb2 kb2l).nm; unfold maxLen at this; omega
                  have z3 : (y.vm kb2).tn.size ≤ 9223372036854775807 := by have := ((unhide HP).vm kb2 kb2l).tn; unfold maxLen at this; omega
                  have z4 : (y.vm kb2).np ≤ 9223372036854775807 := by have := ((unhide HP).vm kb2 kb2l).np; unfold maxLen at this; omega
                  clear ea e1 s1
                  go_upto_region 82 with fail
                  by_cases hA104 : 1048576 < (y.vm kb2).src.size
                  · go_wp2
                    go_ret
                    exact bytes_ret false (hBn ▸ unhide HB)
                  · have hAb104 : decide ((1048576 : Int) < (((y.vm kb2).src.size : Nat) : Int)) = false := by simp; omega
                    go_upto_region 85 with fail
                    by_cases hD104 : 1048576 < qb2 + (((y.vm kb2).src.size : Nat) : Int)
                    · go_wp2
                      go_ret
                      exact bytes_ret false (hBn ▸ unhide HB)
                    · have hDb104 : decide (1048576 < qb2 + (((y.vm kb2).src.size : Nat) : Int)) = false := by simp; omega
                      go_upto_region 87 with fail
                      by_cases hA105 : 1048576 < (y.vm kb2).id.size
                      · go_wp2
                        go_ret
                        exact bytes_ret false (hBn ▸ unhide HB)
                      · have hAb105 : decide ((1048576 : Int) < (((y.vm kb2).id.size : Nat) : Int)) = false := by simp; omega
                        go_upto_region 90 with fail
                        by_cases hD105 : 1048576 < (qb2 + (((y.vm kb2).src.size : Nat) : Int)) + (((y.vm kb2).id.size : Nat) : Int)
                        · go_wp2
                          go_ret
                          exact bytes_ret false (hBn ▸ unhide HB)
                        · have hDb105 : decide (1048576 < (qb2 + (((y.vm kb2).src.size : Nat) : Int)) + (((y.vm kb2).id.size : Nat) : Int)) = false := by simp; omega
                          go_upto_region 92 with fail
                          by_cases hA106 : 1048576 < (y.vm kb2).nm.size
                          · go_wp2
                            go_ret
                            exact bytes_ret false (hBn ▸ unhide HB)
                          · have hAb106 : decide ((1048576 : Int) < (((y.vm kb2).nm.size : Nat) : Int)) = false := by simp; omega
                            go_upto_region 95 with fail
                            by_cases hD106 : 1048576 < ((qb2 + (((y.vm kb2).src.size : Nat) : Int)) + (((y.vm kb2).id.size : Nat) : Int)) + (((y.vm kb2).nm.size : Nat) : Int)
                            · go_wp2
                              go_ret
                              exact bytes_ret false (hBn ▸ unhide HB)
                            · have hDb106 : decide (1048576 < ((qb2 + (((y.vm kb2).src.size : Nat) : Int)) + (((y.vm kb2).id.size : Nat) : Int)) + (((y.vm kb2).nm.size : Nat) : Int)) = false := by simp; omega
                              go_upto_region 97 with fail
                              by_cases hA107 : 1048576 < (y.vm kb2).tn.size
                              · go_wp2
                                go_ret
                                exact bytes_ret false (hBn ▸ unhide HB)
                              · have hAb107 : decide ((1048576 : Int) < (((y.vm kb2).tn.size : Nat) : Int)) = false := by simp; omega
                                go_upto_region 100 with fail
                                by_cases hD107 : 1048576 < (((qb2 + (((y.vm kb2).src.size : Nat) : Int)) + (((y.vm kb2).id.size : Nat) : Int)) + (((y.vm kb2).nm.size : Nat) : Int)) + (((y.vm kb2).tn.size : Nat) : Int)
                                · go_wp2
                                  go_ret
                                  exact bytes_ret false (hBn ▸ unhide HB)
                                · have hDb107 : decide (1048576 < (((qb2 + (((y.vm kb2).src.size : Nat) : Int)) + (((y.vm kb2).id.size : Nat) : Int)) + (((y.vm kb2).nm.size : Nat) : Int)) + (((y.vm kb2).tn.size : Nat) : Int)) = false := by simp; omega
                                  go_upto_region 102 with fail
                                  by_cases hA108 : 1048576 < (y.vm kb2).np
                                  · go_wp2
                                    go_ret
                                    exact bytes_ret false (hBn ▸ unhide HB)
                                  · have hAb108 : decide ((1048576 : Int) < (((y.vm kb2).np : Nat) : Int)) = false := by simp; omega
                                    go_upto_region 105 with fail
                                    by_cases hD108 : 1048576 < ((((qb2 + (((y.vm kb2).src.size : Nat) : Int)) + (((y.vm kb2).id.size : Nat) : Int)) + (((y.vm kb2).nm.size : Nat) : Int)) + (((y.vm kb2).tn.size : Nat) : Int)) + (((y.vm kb2).np : Nat) : Int)
                                    · go_wp2
                                      go_ret
                                      exact bytes_ret false (hBn ▸ unhide HB)
                                    · have hDb108 : decide (1048576 < ((((qb2 + (((y.vm kb2).src.size : Nat) : Int)) + (((y.vm kb2).id.size : Nat) : Int)) + (((y.vm kb2).nm.size : Nat) : Int)) + (((y.vm kb2).tn.size : Nat) : Int)) + (((y.vm kb2).np : Nat) : Int)) = false := by simp; omega
                                      go_wp2
                                      go_loopw [5, 11] (fun a i wr => ∃ (q : Int) (l : Nat), a = .int .i64 q ∧ 0 ≤ q ∧ q ≤ 1048576 ∧ l ≤ (y.vm kb2).np ∧ i = .int .i64 l ∧ wk = wr) (fun _ i _ => (y.vm kb2).np - (intOf i).toNat)
                                      case atStart => exact ⟨_, 0, rfl, by omega, by omega, Nat.zero_le _, rfl, rfl⟩
                                      case round =>
                                        clear hAb104 hDb104 hAb105 hDb105 hAb106 hDb106 hAb107 hDb107 hAb108 hDb108
                                        obtain ⟨qb3, lb3, rfl, qb3a, qb3b, lb3a, rfl, rfl⟩ := hrel
                                        by_cases lb3l : lb3 < (y.vm kb2).np
                                        · obtain ⟨b, o, ea, s1⟩ := (unhide HY).p kb2 lb3 kb2l lb3l
                                          rw [ea] at v5
                                          have p0 : wk.cell? ⟨b, o + lb3 * 10, none⟩ = some (.string ((y.vm kb2).pl lb3).tn) := s1 0 (by decide)
                                          have p1 : wk.cell? ⟨b, o + lb3 * 10 + 1, none⟩ = some (.string ((y.vm kb2).pl lb3).pl) := s1 1 (by decide)
                                          have y0 : ((y.vm kb2).pl lb3).tn.size ≤ 9223372036854775807 := by have := (((unhide HP).vm kb2 kb2l).pl lb3 lb3l).tn; unfold maxLen at this; omega
                                          have y1 : ((y.vm kb2).pl lb3).pl.size ≤ 9223372036854775807 := by have := (((unhide HP).vm kb2 kb2l).pl lb3 lb3l).pl; unfold maxLen at this; omega
                                          clear ea s1
                                          go_upto_region 110 with fail
                                          by_cases hA109 : 1048576 < ((y.vm kb2).pl lb3).tn.size
                                          · go_wp2
                                            go_ret
                                            exact bytes_ret false (hBn ▸ unhide HB)
                                          · have hAb109 : decide ((1048576 : Int) < ((((y.vm kb2).pl lb3).tn.size : Nat) : Int)) = false := by simp; omega
                                            go_upto_region 113 with fail
                                            by_cases hD109 : 1048576 < qb3 + ((((y.vm kb2).pl lb3).tn.size : Nat) : Int)
                                            · go_wp2
                                              go_ret
                                              exact bytes_ret false (hBn ▸ unhide HB)
                                            · have hDb109 : decide (1048576 < qb3 + ((((y.vm kb2).pl lb3).tn.size : Nat) : Int)) = false := by simp; omega
                                              go_upto_region 115 with fail
                                              by_cases hA110 : 1048576 < ((y.vm kb2).pl lb3).pl.size
                                              · go_wp2
                                                go_ret
                                                exact bytes_ret false (hBn ▸ unhide HB)
                                              · have hAb110 : decide ((1048576 : Int) < ((((y.vm kb2).pl lb3).pl.size : Nat) : Int)) = false := by simp; omega
                                                go_upto_region 118 with fail
                                                by_cases hD110 : 1048576 < (qb3 + ((((y.vm kb2).pl lb3).tn.size : Nat) : Int)) + ((((y.vm kb2).pl lb3).pl.size : Nat) : Int)
                                                · go_wp2
                                                  go_ret
                                                  exact bytes_ret false (hBn ▸ unhide HB)
                                                · have hDb110 : decide (1048576 < (qb3 + ((((y.vm kb2).pl lb3).tn.size : Nat) : Int)) + ((((y.vm kb2).pl lb3).pl.size : Nat) : Int)) = false := by simp; omega
                                                  go_wp2
                                                  exact ⟨⟨_, lb3 + 1, rfl, by omega, by omega, by omega, by go_num, by first | rfl | trivial⟩, by simp [intOf]; omega⟩
                                        · go_wp2
                                          go_roundw
                                          case rel => exact ⟨_, _, _, _, _, _, _, _, _, _, _, _, _, _, _, _, _, _, _, _, _, _, _, _, _, _, _, _, _, _, _, _, _, _, _, _, _, _, _, _, _, _, _, _, _, _, _, _, _, _, _, _, _, _, _, _, _, _, _, _, _, _, _, _, _, _, _, _, _, _, _, _, _, _, _, _, _, _, _, _, _, _, _, _, _, _, _, _, _, _, _, _, _, _, _, _, _, _, _, _, _, _, _, _, _, _, _, _, _, _, _, _, _, _, _, _, _, _, _, _, _, _, _, _, _, _, _, _, _, _, _, _, _, _, _, _, _, _, _, _, _, _, _, _, _, _, _, _, _, _, _, _, _, _, _, _, _, _, _, _, _, _, _, _, _, _, _, _, _, _, _, ⟨_, kb2 + 1, rfl, by omega, by omega, by omega, by go_num, by first | rfl | trivial⟩, rfl⟩
                                          case measure => simp [intOf]; omega
                · go_wp2
                  go_ret
                  exact bytes_ret true (hBn ▸ unhide HB)
end Go.Proofs.Qxb6617558a
