/-
  Seat 307a: FnRepairedPrePost: statement(s) St25.
-/
import Derived.Test.Qxb6601307aPre
namespace Go.Proofs.Qxb6601307a
open Go.RowKit Go.WideShapes Go.MapKept
set_option linter.unusedVariables false
set_option linter.unusedSimpArgs false

set_option maxRecDepth 100000 in
set_option maxHeartbeats 4000000 in
theorem st25 {d : Rw} {g : Gh} {y : Yt} {d0 d1 d2 d3 d4 d5 : Option Addr} {n0 n1 f0 f1 f2 f3 f4 f5 : Nat} {u m pu gn fr ab : Bool} {f id : Int} {obj : ByteArray} {w0 w : World} {J K : Act → World → Prop} {c8 c9 c10 c11 c12 c13 c14 c15 c16 c21 c29 c30 c32 c33 c34 c35 c36 c37 c38 c39 c40 c41 c42 c43 c44 c45 c46 c47 c48 c49 c50 c51 c52 c53 c54 c55 c56 c57 c58 c59 c60 c61 c62 c63 c64 c65 c66 c67 c68 c69 c70 c71 c72 c73 c74 c75 c76 c77 c78 c79 c80 c81 c82 c83 c84 c85 c86 c87 c88 c89 c90 c91 c92 c93 c94 c95 c96 c97 c98 c99 c100 c101 c102 c103 c104 c105 c106 c107 c108 c109 c110 c111 c112 c113 c114 c115 c116 c117 c118 c119 c120 c121 c122 c123 c124 c125 c126 c127 c128 c129 c130 c131 c132 c133 c134 c135 c136 c137 c138 c139 c140 c141 c142 c143 c144 c145 c146 c147 c148 c149 c150 c151 c152 c153 c154 c155 c156 c157 c158 c159 c160 c161 c162 c163 c164 c165 c166 c167 c168 c169 c170 c171 c172 c173 c174 c175 c176 c177 c178 c179 c180 c181 c182 c183 c184 c185 c186 c187 c188 c189 c190 c191 c192 c193 c194 c195 c196 c197 c198 c199 c200 c201 c202 c203 c204 c205 c206 c207 c208 c209 c210 c211 c212 c213 c214 c215 c216 c217 c218 c219 c220 c221 c222 c223 c224 c225 c226 c227 c228 c229 c230 c231 c232 c233 c234 c235 c236 c237 c238 c239 c240 c241 c242 c243 c244 c245 c246 c247 c248 c249 c250 c251 c252 c253 c254 c255 c256 c257 c258 c259 c260 c261 c262 c263 c264 c265 c266 c267 c268 c269 c270 c271 c272 c273 c274 c275 c276 c277 c278 c279 c280 c281 c282 c283 c284 c285 c286 c287 c288 c289 c290 c291 c292 c293 c294 c295 c296 c297 c298 c299 c300 c301 c302 c303 c304 c305 c306 c307 c308 c309 c310 c311 c312 c313 c314 c315 c316 c317 c318 c319 c320 c321 c322 c323 c324 c325 c326 c327 c328 c329 c330 c331 c332 c333 c334 c335 c336 c337 c338 c339 c340 c341 c342 c343 c344 c345 c346 c347 c348 c349 c350 c351 c352 c353 c354 c355 c356 c357 c358 c359 c360 c361 c362 c363 c364 c365 c366 c367 c368 c369 c370 c371 c372 c373 c374 c375 c376 c377 c378 c379 c380 c381 c382 c383 c384 c385 c386 c387 c388 c389 c390 c391 c392 c393 c394 c395 c396 c397 c398 c399 c400 c401 c402 c403 c404 c405 c406 c407 c408 c409 c410 c411 c412 c413 c414 c415 c416 c417 c418 c419 c420 c421 c422 c423 c424 c425 c426 c427 c428 c429 c430 c431 c432 c433 c434 c435 c436 c437 c438 c439 c440 c441 c442 c443 c444 c445 c446 c447 c448 c449 c450 c451 c452 c453 c454 c455 c456 c457 c458 : Value} 
    (hK : ∀ a w, Met J a w → K a w) (hJ : Hid (∀ {c8 c9 c10 c11 c12 c13 c14 c15 c16 c21 c29 c30 c32 c33 c34 c35 c36 c37 c38 c39 c40 c41 c42 c43 c44 c45 c46 c47 c48 c49 c50 c51 c52 c53 c54 c55 c56 c57 c58 c59 c60 c61 c62 c63 c64 c65 c66 c67 c68 c69 c70 c71 c72 c73 c74 c75 c76 c77 c78 c79 c80 c81 c82 c83 c84 c85 c86 c87 c88 c89 c90 c91 c92 c93 c94 c95 c96 c97 c98 c99 c100 c101 c102 c103 c104 c105 c106 c107 c108 c109 c110 c111 c112 c113 c114 c115 c116 c117 c118 c119 c120 c121 c122 c123 c124 c125 c126 c127 c128 c129 c130 c131 c132 c133 c134 c135 c136 c137 c138 c139 c140 c141 c142 c143 c144 c145 c146 c147 c148 c149 c150 c151 c152 c153 c154 c155 c156 c157 c158 c159 c160 c161 c162 c163 c164 c165 c166 c167 c168 c169 c170 c171 c172 c173 c174 c175 c176 c177 c178 c179 c180 c181 c182 c183 c184 c185 c186 c187 c188 c189 c190 c191 c192 c193 c194 c195 c196 c197 c198 c199 c200 c201 c202 c203 c204 c205 c206 c207 c208 c209 c210 c211 c212 c213 c214 c215 c216 c217 c218 c219 c220 c221 c222 c223 c224 c225 c226 c227 c228 c229 c230 c231 c232 c233 c234 c235 c236 c237 c238 c239 c240 c241 c242 c243 c244 c245 c246 c247 c248 c249 c250 c251 c252 c253 c254 c255 c256 c257 c258 c259 c260 c261 c262 c263 c264 c265 c266 c267 c268 c269 c270 c271 c272 c273 c274 c275 c276 c277 c278 c279 c280 c281 c282 c283 c284 c285 c286 c287 c288 c289 c290 c291 c292 c293 c294 c295 c296 c297 c298 c299 c300 c301 c302 c303 c304 c305 c306 c307 c308 c309 c310 c311 c312 c313 c314 c315 c316 c317 c318 c319 c320 c321 c322 c323 c324 c325 c326 c327 c328 c329 c330 c331 c332 c333 c334 c335 c336 c337 c338 c339 c340 c341 c342 c343 c344 c345 c346 c347 c348 c349 c350 c351 c352 c353 c354 c355 c356 c357 c358 c359 c360 c361 c362 c363 c364 c365 c366 c367 c368 c369 c370 c371 c372 c373 c374 c375 c376 c377 c378 c379 c380 c381 c382 c383 c384 c385 c386 c387 c388 c389 c390 c391 c392 c393 c394 c395 c396 c397 c398 c399 c400 c401 c402 c403 c404 c405 c406 c407 c408 c409 c410 c411 c412 c413 c414 c415 c416 c417 c418 c419 c420 c421 c422 c423 c424 c425 c426 c427 c428 c429 c430 c431 c432 c433 c434 c435 c436 c437 c438 c439 c440 c441 c442 c443 c444 c445 c446 c447 c448 c449 c450 c451 c452 c453 c454 c455 c456 c457 c458 : Value} {w' : World}, Aft d g y d2 d3 d4 d5 u gn fr f id obj w0 w' → J ⟨(.slice d0 n0 f0 :: .slice d1 n1 f1 :: .slice d2 d.n2 f2 :: .slice d3 d.n3 f3 :: .slice d4 d.n4 f4 :: .slice d5 d.n5 f5 :: .int .i64 id :: .string obj :: c8 :: c9 :: c10 :: c11 :: c12 :: c13 :: c14 :: c15 :: c16 :: .map (some y.bi) :: .map (some y.bub) :: .map (some y.bmm) :: .map (some y.bsrc) :: c21 :: .bool u :: .bool m :: .int .i64 f :: .bool pu :: .bool gn :: .bool fr :: .bool ab :: c29 :: c30 :: .pointer (some ⟨g.bp, 0, none⟩) :: c32 :: c33 :: c34 :: c35 :: c36 :: c37 :: c38 :: c39 :: c40 :: c41 :: c42 :: c43 :: c44 :: c45 :: c46 :: c47 :: c48 :: c49 :: c50 :: c51 :: c52 :: c53 :: c54 :: c55 :: c56 :: c57 :: c58 :: c59 :: c60 :: c61 :: c62 :: c63 :: c64 :: c65 :: c66 :: c67 :: c68 :: c69 :: c70 :: c71 :: c72 :: c73 :: c74 :: c75 :: c76 :: c77 :: c78 :: c79 :: c80 :: c81 :: c82 :: c83 :: c84 :: c85 :: c86 :: c87 :: c88 :: c89 :: c90 :: c91 :: c92 :: c93 :: c94 :: c95 :: c96 :: c97 :: c98 :: c99 :: c100 :: c101 :: c102 :: c103 :: c104 :: c105 :: c106 :: c107 :: c108 :: c109 :: c110 :: c111 :: c112 :: c113 :: c114 :: c115 :: c116 :: c117 :: c118 :: c119 :: c120 :: c121 :: c122 :: c123 :: c124 :: c125 :: c126 :: c127 :: c128 :: c129 :: c130 :: c131 :: c132 :: c133 :: c134 :: c135 :: c136 :: c137 :: c138 :: c139 :: c140 :: c141 :: c142 :: c143 :: c144 :: c145 :: c146 :: c147 :: c148 :: c149 :: c150 :: c151 :: c152 :: c153 :: c154 :: c155 :: c156 :: c157 :: c158 :: c159 :: c160 :: c161 :: c162 :: c163 :: c164 :: c165 :: c166 :: c167 :: c168 :: c169 :: c170 :: c171 :: c172 :: c173 :: c174 :: c175 :: c176 :: c177 :: c178 :: c179 :: c180 :: c181 :: c182 :: c183 :: c184 :: c185 :: c186 :: c187 :: c188 :: c189 :: c190 :: c191 :: c192 :: c193 :: c194 :: c195 :: c196 :: c197 :: c198 :: c199 :: c200 :: c201 :: c202 :: c203 :: c204 :: c205 :: c206 :: c207 :: c208 :: c209 :: c210 :: c211 :: c212 :: c213 :: c214 :: c215 :: c216 :: c217 :: c218 :: c219 :: c220 :: c221 :: c222 :: c223 :: c224 :: c225 :: c226 :: c227 :: c228 :: c229 :: c230 :: c231 :: c232 :: c233 :: c234 :: c235 :: c236 :: c237 :: c238 :: c239 :: c240 :: c241 :: c242 :: c243 :: c244 :: c245 :: c246 :: c247 :: c248 :: c249 :: c250 :: c251 :: c252 :: c253 :: c254 :: c255 :: c256 :: c257 :: c258 :: c259 :: c260 :: c261 :: c262 :: c263 :: c264 :: c265 :: c266 :: c267 :: c268 :: c269 :: c270 :: c271 :: c272 :: c273 :: c274 :: c275 :: c276 :: c277 :: c278 :: c279 :: c280 :: c281 :: c282 :: c283 :: c284 :: c285 :: c286 :: c287 :: c288 :: c289 :: c290 :: c291 :: c292 :: c293 :: c294 :: c295 :: c296 :: c297 :: c298 :: c299 :: c300 :: c301 :: c302 :: c303 :: c304 :: c305 :: c306 :: c307 :: c308 :: c309 :: c310 :: c311 :: c312 :: c313 :: c314 :: c315 :: c316 :: c317 :: c318 :: c319 :: c320 :: c321 :: c322 :: c323 :: c324 :: c325 :: c326 :: c327 :: c328 :: c329 :: c330 :: c331 :: c332 :: c333 :: c334 :: c335 :: c336 :: c337 :: c338 :: c339 :: c340 :: c341 :: c342 :: c343 :: c344 :: c345 :: c346 :: c347 :: c348 :: c349 :: c350 :: c351 :: c352 :: c353 :: c354 :: c355 :: c356 :: c357 :: c358 :: c359 :: c360 :: c361 :: c362 :: c363 :: c364 :: c365 :: c366 :: c367 :: c368 :: c369 :: c370 :: c371 :: c372 :: c373 :: c374 :: c375 :: c376 :: c377 :: c378 :: c379 :: c380 :: c381 :: c382 :: c383 :: c384 :: c385 :: c386 :: c387 :: c388 :: c389 :: c390 :: c391 :: c392 :: c393 :: c394 :: c395 :: c396 :: c397 :: c398 :: c399 :: c400 :: c401 :: c402 :: c403 :: c404 :: c405 :: c406 :: c407 :: c408 :: c409 :: c410 :: c411 :: c412 :: c413 :: c414 :: c415 :: c416 :: c417 :: c418 :: c419 :: c420 :: c421 :: c422 :: c423 :: c424 :: c425 :: c426 :: c427 :: c428 :: c429 :: c430 :: c431 :: c432 :: c433 :: c434 :: c435 :: c436 :: c437 :: c438 :: c439 :: c440 :: c441 :: c442 :: c443 :: c444 :: c445 :: c446 :: c447 :: c448 :: c449 :: c450 :: c451 :: c452 :: c453 :: c454 :: c455 :: c456 :: c457 :: c458 :: []).toArray, []⟩ w'))
    (fb : Fb d g.m0 u m pu gn fr f id obj) (sz : Szs d) (ha : Aft d g y d2 d3 d4 d5 u gn fr f id obj w0 w) :
    Code.wp Try.prog (S5 25) (Exit.then K (bodyPost Try.prog Try.f5 (fun e w' => e = .returned (.bool true) ∧ Below w0.heap.size w0 w'))) ⟨(.slice d0 n0 f0 :: .slice d1 n1 f1 :: .slice d2 d.n2 f2 :: .slice d3 d.n3 f3 :: .slice d4 d.n4 f4 :: .slice d5 d.n5 f5 :: .int .i64 id :: .string obj :: c8 :: c9 :: c10 :: c11 :: c12 :: c13 :: c14 :: c15 :: c16 :: .map (some y.bi) :: .map (some y.bub) :: .map (some y.bmm) :: .map (some y.bsrc) :: c21 :: .bool u :: .bool m :: .int .i64 f :: .bool pu :: .bool gn :: .bool fr :: .bool ab :: c29 :: c30 :: .pointer (some ⟨g.bp, 0, none⟩) :: c32 :: c33 :: c34 :: c35 :: c36 :: c37 :: c38 :: c39 :: c40 :: c41 :: c42 :: c43 :: c44 :: c45 :: c46 :: c47 :: c48 :: c49 :: c50 :: c51 :: c52 :: c53 :: c54 :: c55 :: c56 :: c57 :: c58 :: c59 :: c60 :: c61 :: c62 :: c63 :: c64 :: c65 :: c66 :: c67 :: c68 :: c69 :: c70 :: c71 :: c72 :: c73 :: c74 :: c75 :: c76 :: c77 :: c78 :: c79 :: c80 :: c81 :: c82 :: c83 :: c84 :: c85 :: c86 :: c87 :: c88 :: c89 :: c90 :: c91 :: c92 :: c93 :: c94 :: c95 :: c96 :: c97 :: c98 :: c99 :: c100 :: c101 :: c102 :: c103 :: c104 :: c105 :: c106 :: c107 :: c108 :: c109 :: c110 :: c111 :: c112 :: c113 :: c114 :: c115 :: c116 :: c117 :: c118 :: c119 :: c120 :: c121 :: c122 :: c123 :: c124 :: c125 :: c126 :: c127 :: c128 :: c129 :: c130 :: c131 :: c132 :: c133 :: c134 :: c135 :: c136 :: c137 :: c138 :: c139 :: c140 :: c141 :: c142 :: c143 :: c144 :: c145 :: c146 :: c147 :: c148 :: c149 :: c150 :: c151 :: c152 :: c153 :: c154 :: c155 :: c156 :: c157 :: c158 :: c159 :: c160 :: c161 :: c162 :: c163 :: c164 :: c165 :: c166 :: c167 :: c168 :: c169 :: c170 :: c171 :: c172 :: c173 :: c174 :: c175 :: c176 :: c177 :: c178 :: c179 :: c180 :: c181 :: c182 :: c183 :: c184 :: c185 :: c186 :: c187 :: c188 :: c189 :: c190 :: c191 :: c192 :: c193 :: c194 :: c195 :: c196 :: c197 :: c198 :: c199 :: c200 :: c201 :: c202 :: c203 :: c204 :: c205 :: c206 :: c207 :: c208 :: c209 :: c210 :: c211 :: c212 :: c213 :: c214 :: c215 :: c216 :: c217 :: c218 :: c219 :: c220 :: c221 :: c222 :: c223 :: c224 :: c225 :: c226 :: c227 :: c228 :: c229 :: c230 :: c231 :: c232 :: c233 :: c234 :: c235 :: c236 :: c237 :: c238 :: c239 :: c240 :: c241 :: c242 :: c243 :: c244 :: c245 :: c246 :: c247 :: c248 :: c249 :: c250 :: c251 :: c252 :: c253 :: c254 :: c255 :: c256 :: c257 :: c258 :: c259 :: c260 :: c261 :: c262 :: c263 :: c264 :: c265 :: c266 :: c267 :: c268 :: c269 :: c270 :: c271 :: c272 :: c273 :: c274 :: c275 :: c276 :: c277 :: c278 :: c279 :: c280 :: c281 :: c282 :: c283 :: c284 :: c285 :: c286 :: c287 :: c288 :: c289 :: c290 :: c291 :: c292 :: c293 :: c294 :: c295 :: c296 :: c297 :: c298 :: c299 :: c300 :: c301 :: c302 :: c303 :: c304 :: c305 :: c306 :: c307 :: c308 :: c309 :: c310 :: c311 :: c312 :: c313 :: c314 :: c315 :: c316 :: c317 :: c318 :: c319 :: c320 :: c321 :: c322 :: c323 :: c324 :: c325 :: c326 :: c327 :: c328 :: c329 :: c330 :: c331 :: c332 :: c333 :: c334 :: c335 :: c336 :: c337 :: c338 :: c339 :: c340 :: c341 :: c342 :: c343 :: c344 :: c345 :: c346 :: c347 :: c348 :: c349 :: c350 :: c351 :: c352 :: c353 :: c354 :: c355 :: c356 :: c357 :: c358 :: c359 :: c360 :: c361 :: c362 :: c363 :: c364 :: c365 :: c366 :: c367 :: c368 :: c369 :: c370 :: c371 :: c372 :: c373 :: c374 :: c375 :: c376 :: c377 :: c378 :: c379 :: c380 :: c381 :: c382 :: c383 :: c384 :: c385 :: c386 :: c387 :: c388 :: c389 :: c390 :: c391 :: c392 :: c393 :: c394 :: c395 :: c396 :: c397 :: c398 :: c399 :: c400 :: c401 :: c402 :: c403 :: c404 :: c405 :: c406 :: c407 :: c408 :: c409 :: c410 :: c411 :: c412 :: c413 :: c414 :: c415 :: c416 :: c417 :: c418 :: c419 :: c420 :: c421 :: c422 :: c423 :: c424 :: c425 :: c426 :: c427 :: c428 :: c429 :: c430 :: c431 :: c432 :: c433 :: c434 :: c435 :: c436 :: c437 :: c438 :: c439 :: c440 :: c441 :: c442 :: c443 :: c444 :: c445 :: c446 :: c447 :: c448 :: c449 :: c450 :: c451 :: c452 :: c453 :: c454 :: c455 :: c456 :: c457 :: c458 :: []).toArray, []⟩ w := by
  have FB : Hid (Fb d g.m0 u m pu gn fr f id obj) := fb
  have HA : Hid (Aft d g y d2 d3 d4 d5 u gn fr f id obj w0 w) := ha
  have hb2 := sz.b2
  clear fb sz ha
  conv => arg 2; whnf
  go_wp2
  go_loopw [263] (fun s wr => ∃ k : Nat, k ≤ d.n2 ∧ s = .int .i64 k ∧ Aft d g y d2 d3 d4 d5 u gn fr f id obj w0 wr) (fun i _ => d.n2 - (intOf i).toNat)
  case atStart => exact ⟨0, Nat.zero_le _, rfl, HA.out⟩
  case round =>
    obtain ⟨k, hk, rfl, hg⟩ := hrel
    have HG : Hid (Aft d g y d2 d3 d4 d5 u gn fr f id obj w0 wr) := hg
    clear hg HA
    by_cases hlt : k < d.n2
    · have hdom : Dom d.MI d.n2 (d.MI k) := ⟨k, hlt, rfl⟩
      have hmem : Mem2 d.MI d.MO d.n2 (d.MI k) (d.MO k) := ⟨k, hlt, rfl, rfl⟩
      obtain ⟨b, off, rfl, hbw, hc⟩ := HG.out.h2.at hlt
      have q0 := hc k hlt 0 (by omega)
      have q1 := hc k hlt 1 (by omega)
      have q2 := hc k hlt 2 (by omega)
      have q3 := hc k hlt 3 (by omega)
      have q4 := hc k hlt 4 (by omega)
      have q5 := hc k hlt 5 (by omega)
      simp only [missF, Nat.add_zero] at q0 q1 q2 q3 q4 q5
      clear hc
      obtain ⟨i, hI⟩ : ∃ i, d.MI k = i := ⟨_, rfl⟩
      obtain ⟨s, hS⟩ : ∃ s, d.MO k = s := ⟨_, rfl⟩
      obtain ⟨e0, he0⟩ : ∃ e, y.ME k 0 = e := ⟨_, rfl⟩
      obtain ⟨e1, he1⟩ : ∃ e, y.ME k 1 = e := ⟨_, rfl⟩
      obtain ⟨e2, he2⟩ : ∃ e, y.ME k 2 = e := ⟨_, rfl⟩
      obtain ⟨e3, he3⟩ : ∃ e, y.ME k 3 = e := ⟨_, rfl⟩
      rw [hI] at q0 hdom hmem
      rw [hS] at q1 hmem
      rw [he0] at q2
      rw [he1] at q3
      rw [he2] at q4
      rw [he3] at q5
      clear hI hS he0 he1 he2 he3
      obtain ⟨R, hR⟩ : ∃ R, wr.heap.size = R := ⟨_, rfl⟩
      obtain ⟨wa, hwa⟩ : ∃ wa, wr.alloc (.cells #[.int .i64 i, .string s, .int .u64 e0, .int .u64 e1, .int .u64 e2, .int .u64 e3] 76) = wa := ⟨_, rfl⟩
      have ba : Below wr.heap.size wr wa := hwa ▸ Below.new _ _
      have hblk : wa.heap[R]? = some (.cells #[.int .i64 i, .string s, .int .u64 e0, .int .u64 e1, .int .u64 e2, .int .u64 e3] 76 (0, 0)) := by rw [← hwa, ← hR]; exact block_alloc_at _ _
      have x0 : wa.cell? ⟨R, 0, none⟩ = some (.int .i64 i) := by simp [World.cell?, hblk]
      have x1 : wa.cell? ⟨R, 1, none⟩ = some (.string s) := by simp [World.cell?, hblk]
      have GA : Hid (Aft d g y (some ⟨b, off, none⟩) d3 d4 d5 u gn fr f id obj w0 wa) := HG.out.below ba
      obtain ⟨v, n, l1, l2, hcard, hnq⟩ := grp_len GA.out.mm i
      obtain ⟨n', hn'⟩ := (GA.out.px.gm.set _ hdom).map
      have HC' : Hid (Card (fun s => Mem2 d.MI d.MO d.n2 i s ∧ ¬ RMa gn id obj i s) n') := (GA.out.px.gm.set _ hdom).card hn'
      have HN : Hid (n = if (decide (i = id) && gn) then n' + 1 else n') := cnt (obj := obj) hcard HC'.out (fun h => by
          simp only [Bool.and_eq_true, decide_eq_true_eq] at h
          obtain ⟨h1, h2⟩ := h
          exact ⟨by rw [h1]; exact FB.out.hm.1 (FB.out.of_gn h2).1, fun s => by simp [RMa, h1, h2]⟩) (fun h s hr => by
          obtain ⟨h1, h2, h3⟩ := hr
          simp [h1, h2] at h)
      have HD : Hid (Dom d.MI d.n2 i ∧ Mem2 d.MI d.MO d.n2 i s) := ⟨hdom, hmem⟩
      clear hblk ba hcard hn' hdom hmem HG
      go_upto_region 59 with fail
      go_cut [281] from 266 to 310 (fun z wx => z = .bool (decide (i = id) && gn) ∧ wa = wx)
      case first =>
        by_cases hi : i = id
        · subst hi
          cases gn
          · go_wp2
            go_meet
            exact ⟨by simp, rfl⟩
          · go_wp2
            go_meet
            exact ⟨by simp, rfl⟩
        · go_wp2
          go_meet
          exact ⟨by simp [hi], rfl⟩
      case rest =>
        obtain ⟨rfl, rfl⟩ := hcut
        have hn2 := HN.out
        generalize (decide (i = id) && gn) = c at *
        go_upto_if 281 with fail
        go_cut [39] from 266 to 310 (fun z wx => z = .int .i64 n' ∧ wa = wx)
        case first =>
          cases c
          · simp only [Bool.false_eq_true, if_false] at hn2
            subst hn2
            go_wp2
            go_meet
            exact ⟨rfl, rfl⟩
          · simp only [if_true] at hn2
            subst hn2
            go_wp2
            go_meet
            exact ⟨by go_num, rfl⟩
        case rest =>
          obtain ⟨rfl, rfl⟩ := hcut
          clear hn2 HN
          go_wp2_with fail
          refine (missingLen_x GA.out.px).mono ?_
          rintro e w2 ⟨⟨n2, rfl, hc2⟩, hx⟩
          obtain rfl := hx.symm
          obtain rfl := HC'.out.uniq hc2
          clear hx hc2 HC'
          go_upto_region 63 with fail
          go_cut [310] from 266 to 310 (fun z wx => z = .bool false ∧ Aft d g y (some ⟨b, off, none⟩) d3 d4 d5 u gn fr f id obj w0 wx)
          case first =>
            cases gn
            · skip
              go_wp2_with fail
              refine (missingHas_x (b := true) (i := i) (s := s) GA.out.px ⟨fun _ => ⟨HD.out.2, fun h => by cases h.1⟩, fun _ => rfl⟩).mono ?_
              rintro e w3 ⟨rfl, hb3⟩
              have H3 : Hid (Below wa.heap.size wa w3) := hb3
              clear hb3
              go_wp2
              go_meet
              exact ⟨rfl, GA.out.below H3.out⟩
            · by_cases hi : i = id
              · subst hi
                by_cases hs : s = obj
                · subst hs
                  go_wp2_with fail
                  refine (missingHas_x (b := false) (i := i) (s := s) GA.out.px ⟨fun h => (by cases h), fun h => absurd ⟨rfl, rfl, rfl⟩ h.2⟩).mono ?_
                  rintro e w3 ⟨rfl, hb3⟩
                  have H3 : Hid (Below wa.heap.size wa w3) := hb3
                  have x0' := (hb3.cell (cell_lt x0)).trans x0
                  have x1' := (hb3.cell (cell_lt x1)).trans x1
                  clear hb3
                  go_wp2
                  go_meet
                  exact ⟨rfl, GA.out.below H3.out⟩
                · have hsb := str_ne hs
                  go_wp2_with fail
                  refine (missingHas_x (b := true) (i := i) (s := s) GA.out.px ⟨fun _ => ⟨HD.out.2, fun h => hs h.2.2⟩, fun _ => rfl⟩).mono ?_
                  rintro e w3 ⟨rfl, hb3⟩
                  have H3 : Hid (Below wa.heap.size wa w3) := hb3
                  have x0' := (hb3.cell (cell_lt x0)).trans x0
                  have x1' := (hb3.cell (cell_lt x1)).trans x1
                  clear hb3
                  go_wp2
                  go_meet
                  exact ⟨rfl, GA.out.below H3.out⟩
              · skip
                go_wp2_with fail
                refine (missingHas_x (b := true) (i := i) (s := s) GA.out.px ⟨fun _ => ⟨HD.out.2, fun h => hi h.2.1⟩, fun _ => rfl⟩).mono ?_
                rintro e w3 ⟨rfl, hb3⟩
                have H3 : Hid (Below wa.heap.size wa w3) := hb3
                have x0' := (hb3.cell (cell_lt x0)).trans x0
                have x1' := (hb3.cell (cell_lt x1)).trans x1
                clear hb3
                go_wp2
                go_meet
                exact ⟨rfl, GA.out.below H3.out⟩
          case rest =>
            obtain ⟨rfl, hg⟩ := hcut
            have HG2 : Hid _ := hg
            clear hg
            go_wp2
            go_roundw
            case rel => exact ⟨k + 1, by omega, by go_num, HG2.out⟩
            case measure => simp [intOf]; omega
    · go_wp2
      exact Met.intro (hJ.out HG.out)

end Go.Proofs.Qxb6601307a
