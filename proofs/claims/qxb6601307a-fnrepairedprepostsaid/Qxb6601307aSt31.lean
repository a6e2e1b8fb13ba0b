/-
  Seat 307a: FnRepairedPrePost: statement(s) St31.
-/
import Derived.Test.Qxb6601307aPre
namespace Go.Proofs.Qxb6601307a
open Go.RowKit Go.WideShapes Go.MapKept
set_option linter.unusedVariables false
set_option linter.unusedSimpArgs false

set_option maxRecDepth 100000 in
set_option maxHeartbeats 4000000 in
theorem st31 {d : Rw} {g : Gh} {y : Yt} {d0 d1 d2 d3 d4 d5 : Option Addr} {n0 n1 f0 f1 f2 f3 f4 f5 : Nat} {u m pu gn fr ab : Bool} {f id : Int} {obj : ByteArray} {w0 w : World} {J K : Act → World → Prop} {c8 c9 c10 c11 c12 c13 c14 c15 c16 c21 c29 c30 c32 c33 c34 c35 c36 c37 c38 c39 c40 c41 c42 c43 c44 c45 c46 c47 c48 c49 c50 c51 c52 c53 c54 c55 c56 c57 c58 c59 c60 c61 c62 c63 c64 c65 c66 c67 c68 c69 c70 c71 c72 c73 c74 c75 c76 c77 c78 c79 c80 c81 c82 c83 c84 c85 c86 c87 c88 c89 c90 c91 c92 c93 c94 c95 c96 c97 c98 c99 c100 c101 c102 c103 c104 c105 c106 c107 c108 c109 c110 c111 c112 c113 c114 c115 c116 c117 c118 c119 c120 c121 c122 c123 c124 c125 c126 c127 c128 c129 c130 c131 c132 c133 c134 c135 c136 c137 c138 c139 c140 c141 c142 c143 c144 c145 c146 c147 c148 c149 c150 c151 c152 c153 c154 c155 c156 c157 c158 c159 c160 c161 c162 c163 c164 c165 c166 c167 c168 c169 c170 c171 c172 c173 c174 c175 c176 c177 c178 c179 c180 c181 c182 c183 c184 c185 c186 c187 c188 c189 c190 c191 c192 c193 c194 c195 c196 c197 c198 c199 c200 c201 c202 c203 c204 c205 c206 c207 c208 c209 c210 c211 c212 c213 c214 c215 c216 c217 c218 c219 c220 c221 c222 c223 c224 c225 c226 c227 c228 c229 c230 c231 c232 c233 c234 c235 c236 c237 c238 c239 c240 c241 c242 c243 c244 c245 c246 c247 c248 c249 c250 c251 c252 c253 c254 c255 c256 c257 c258 c259 c260 c261 c262 c263 c264 c265 c266 c267 c268 c269 c270 c271 c272 c273 c274 c275 c276 c277 c278 c279 c280 c281 c282 c283 c284 c285 c286 c287 c288 c289 c290 c291 c292 c293 c294 c295 c296 c297 c298 c299 c300 c301 c302 c303 c304 c305 c306 c307 c308 c309 c310 c311 c312 c313 c314 c315 c316 c317 c318 c319 c320 c321 c322 c323 c324 c325 c326 c327 c328 c329 c330 c331 c332 c333 c334 c335 c336 c337 c338 c339 c340 c341 c342 c343 c344 c345 c346 c347 c348 c349 c350 c351 c352 c353 c354 c355 c356 c357 c358 c359 c360 c361 c362 c363 c364 c365 c366 c367 c368 c369 c370 c371 c372 c373 c374 c375 c376 c377 c378 c379 c380 c381 c382 c383 c384 c385 c386 c387 c388 c389 c390 c391 c392 c393 c394 c395 c396 c397 c398 c399 c400 c401 c402 c403 c404 c405 c406 c407 c408 c409 c410 c411 c412 c413 c414 c415 c416 c417 c418 c419 c420 c421 c422 c423 c424 c425 c426 c427 c428 c429 c430 c431 c432 c433 c434 c435 c436 c437 c438 c439 c440 c441 c442 c443 c444 c445 c446 c447 c448 c449 c450 c451 c452 c453 c454 c455 c456 c457 c458 : Value} 
    (hK : ∀ a w, Met J a w → K a w) (hJ : Hid (∀ {c8 c9 c10 c11 c12 c13 c14 c15 c16 c21 c29 c30 c32 c33 c34 c35 c36 c37 c38 c39 c40 c41 c42 c43 c44 c45 c46 c47 c48 c49 c50 c51 c52 c53 c54 c55 c56 c57 c58 c59 c60 c61 c62 c63 c64 c65 c66 c67 c68 c69 c70 c71 c72 c73 c74 c75 c76 c77 c78 c79 c80 c81 c82 c83 c84 c85 c86 c87 c88 c89 c90 c91 c92 c93 c94 c95 c96 c97 c98 c99 c100 c101 c102 c103 c104 c105 c106 c107 c108 c109 c110 c111 c112 c113 c114 c115 c116 c117 c118 c119 c120 c121 c122 c123 c124 c125 c126 c127 c128 c129 c130 c131 c132 c133 c134 c135 c136 c137 c138 c139 c140 c141 c142 c143 c144 c145 c146 c147 c148 c149 c150 c151 c152 c153 c154 c155 c156 c157 c158 c159 c160 c161 c162 c163 c164 c165 c166 c167 c168 c169 c170 c171 c172 c173 c174 c175 c176 c177 c178 c179 c180 c181 c182 c183 c184 c185 c186 c187 c188 c189 c190 c191 c192 c193 c194 c195 c196 c197 c198 c199 c200 c201 c202 c203 c204 c205 c206 c207 c208 c209 c210 c211 c212 c213 c214 c215 c216 c217 c218 c219 c220 c221 c222 c223 c224 c225 c226 c227 c228 c229 c230 c231 c232 c233 c234 c235 c236 c237 c238 c239 c240 c241 c242 c243 c244 c245 c246 c247 c248 c249 c250 c251 c252 c253 c254 c255 c256 c257 c258 c259 c260 c261 c262 c263 c264 c265 c266 c267 c268 c269 c270 c271 c272 c273 c274 c275 c276 c277 c278 c279 c280 c281 c282 c283 c284 c285 c286 c287 c288 c289 c290 c291 c292 c293 c294 c295 c296 c297 c298 c299 c300 c301 c302 c303 c304 c305 c306 c307 c308 c309 c310 c311 c312 c313 c314 c315 c316 c317 c318 c319 c320 c321 c322 c323 c324 c325 c326 c327 c328 c329 c330 c331 c332 c333 c334 c335 c336 c337 c338 c339 c340 c341 c342 c343 c344 c345 c346 c347 c348 c349 c350 c351 c352 c353 c354 c355 c356 c357 c358 c359 c360 c361 c362 c363 c364 c365 c366 c367 c368 c369 c370 c371 c372 c373 c374 c375 c376 c377 c378 c379 c380 c381 c382 c383 c384 c385 c386 c387 c388 c389 c390 c391 c392 c393 c394 c395 c396 c397 c398 c399 c400 c401 c402 c403 c404 c405 c406 c407 c408 c409 c410 c411 c412 c413 c414 c415 c416 c417 c418 c419 c420 c421 c422 c423 c424 c425 c426 c427 c428 c429 c430 c431 c432 c433 c434 c435 c436 c437 c438 c439 c440 c441 c442 c443 c444 c445 c446 c447 c448 c449 c450 c451 c452 c453 c454 c455 c456 c457 c458 : Value} {w' : World}, Aft d g y d2 d3 d4 d5 u gn fr f id obj w0 w' → J ⟨(.slice d0 n0 f0 :: .slice d1 n1 f1 :: .slice d2 d.n2 f2 :: .slice d3 d.n3 f3 :: .slice d4 d.n4 f4 :: .slice d5 d.n5 f5 :: .int .i64 id :: .string obj :: c8 :: c9 :: c10 :: c11 :: c12 :: c13 :: c14 :: c15 :: c16 :: .map (some y.bi) :: .map (some y.bub) :: .map (some y.bmm) :: .map (some y.bsrc) :: c21 :: .bool u :: .bool m :: .int .i64 f :: .bool pu :: .bool gn :: .bool fr :: .bool ab :: c29 :: c30 :: .pointer (some ⟨g.bp, 0, none⟩) :: c32 :: c33 :: c34 :: c35 :: c36 :: c37 :: c38 :: c39 :: c40 :: c41 :: c42 :: c43 :: c44 :: c45 :: c46 :: c47 :: c48 :: c49 :: c50 :: c51 :: c52 :: c53 :: c54 :: c55 :: c56 :: c57 :: c58 :: c59 :: c60 :: c61 :: c62 :: c63 :: c64 :: c65 :: c66 :: c67 :: c68 :: c69 :: c70 :: c71 :: c72 :: c73 :: c74 :: c75 :: c76 :: c77 :: c78 :: c79 :: c80 :: c81 :: c82 :: c83 :: c84 :: c85 :: c86 :: c87 :: c88 :: c89 :: c90 :: c91 :: c92 :: c93 :: c94 :: c95 :: c96 :: c97 :: c98 :: c99 :: c100 :: c101 :: c102 :: c103 :: c104 :: c105 :: c106 :: c107 :: c108 :: c109 :: c110 :: c111 :: c112 :: c113 :: c114 :: c115 :: c116 :: c117 :: c118 :: c119 :: c120 :: c121 :: c122 :: c123 :: c124 :: c125 :: c126 :: c127 :: c128 :: c129 :: c130 :: c131 :: c132 :: c133 :: c134 :: c135 :: c136 :: c137 :: c138 :: c139 :: c140 :: c141 :: c142 :: c143 :: c144 :: c145 :: c146 :: c147 :: c148 :: c149 :: c150 :: c151 :: c152 :: c153 :: c154 :: c155 :: c156 :: c157 :: c158 :: c159 :: c160 :: c161 :: c162 :: c163 :: c164 :: c165 :: c166 :: c167 :: c168 :: c169 :: c170 :: c171 :: c172 :: c173 :: c174 :: c175 :: c176 :: c177 :: c178 :: c179 :: c180 :: c181 :: c182 :: c183 :: c184 :: c185 :: c186 :: c187 :: c188 :: c189 :: c190 :: c191 :: c192 :: c193 :: c194 :: c195 :: c196 :: c197 :: c198 :: c199 :: c200 :: c201 :: c202 :: c203 :: c204 :: c205 :: c206 :: c207 :: c208 :: c209 :: c210 :: c211 :: c212 :: c213 :: c214 :: c215 :: c216 :: c217 :: c218 :: c219 :: c220 :: c221 :: c222 :: c223 :: c224 :: c225 :: c226 :: c227 :: c228 :: c229 :: c230 :: c231 :: c232 :: c233 :: c234 :: c235 :: c236 :: c237 :: c238 :: c239 :: c240 :: c241 :: c242 :: c243 :: c244 :: c245 :: c246 :: c247 :: c248 :: c249 :: c250 :: c251 :: c252 :: c253 :: c254 :: c255 :: c256 :: c257 :: c258 :: c259 :: c260 :: c261 :: c262 :: c263 :: c264 :: c265 :: c266 :: c267 :: c268 :: c269 :: c270 :: c271 :: c272 :: c273 :: c274 :: c275 :: c276 :: c277 :: c278 :: c279 :: c280 :: c281 :: c282 :: c283 :: c284 :: c285 :: c286 :: c287 :: c288 :: c289 :: c290 :: c291 :: c292 :: c293 :: c294 :: c295 :: c296 :: c297 :: c298 :: c299 :: c300 :: c301 :: c302 :: c303 :: c304 :: c305 :: c306 :: c307 :: c308 :: c309 :: c310 :: c311 :: c312 :: c313 :: c314 :: c315 :: c316 :: c317 :: c318 :: c319 :: c320 :: c321 :: c322 :: c323 :: c324 :: c325 :: c326 :: c327 :: c328 :: c329 :: c330 :: c331 :: c332 :: c333 :: c334 :: c335 :: c336 :: c337 :: c338 :: c339 :: c340 :: c341 :: c342 :: c343 :: c344 :: c345 :: c346 :: c347 :: c348 :: c349 :: c350 :: c351 :: c352 :: c353 :: c354 :: c355 :: c356 :: c357 :: c358 :: c359 :: c360 :: c361 :: c362 :: c363 :: c364 :: c365 :: c366 :: c367 :: c368 :: c369 :: c370 :: c371 :: c372 :: c373 :: c374 :: c375 :: c376 :: c377 :: c378 :: c379 :: c380 :: c381 :: c382 :: c383 :: c384 :: c385 :: c386 :: c387 :: c388 :: c389 :: c390 :: c391 :: c392 :: c393 :: c394 :: c395 :: c396 :: c397 :: c398 :: c399 :: c400 :: c401 :: c402 :: c403 :: c404 :: c405 :: c406 :: c407 :: c408 :: c409 :: c410 :: c411 :: c412 :: c413 :: c414 :: c415 :: c416 :: c417 :: c418 :: c419 :: c420 :: c421 :: c422 :: c423 :: c424 :: c425 :: c426 :: c427 :: c428 :: c429 :: c430 :: c431 :: c432 :: c433 :: c434 :: c435 :: c436 :: c437 :: c438 :: c439 :: c440 :: c441 :: c442 :: c443 :: c444 :: c445 :: c446 :: c447 :: c448 :: c449 :: c450 :: c451 :: c452 :: c453 :: c454 :: c455 :: c456 :: c457 :: c458 :: []).toArray, []⟩ w'))
    (fb : Fb d g.m0 u m pu gn fr f id obj) (sz : Szs d) (hab : fr = true → ∃ jf, Last (fun j => d.PF j = f) d.n4 jf ∧ (ab = true ↔ ∃ t, t < d.Al jf ∧ d.AS jf t = obj)) (ha : Aft d g y d2 d3 d4 d5 u gn fr f id obj w0 w) :
    Code.wp Try.prog (S5 31) (Exit.then K (bodyPost Try.prog Try.f5 (fun e w' => e = .returned (.bool true) ∧ Below w0.heap.size w0 w'))) ⟨(.slice d0 n0 f0 :: .slice d1 n1 f1 :: .slice d2 d.n2 f2 :: .slice d3 d.n3 f3 :: .slice d4 d.n4 f4 :: .slice d5 d.n5 f5 :: .int .i64 id :: .string obj :: c8 :: c9 :: c10 :: c11 :: c12 :: c13 :: c14 :: c15 :: c16 :: .map (some y.bi) :: .map (some y.bub) :: .map (some y.bmm) :: .map (some y.bsrc) :: c21 :: .bool u :: .bool m :: .int .i64 f :: .bool pu :: .bool gn :: .bool fr :: .bool ab :: c29 :: c30 :: .pointer (some ⟨g.bp, 0, none⟩) :: c32 :: c33 :: c34 :: c35 :: c36 :: c37 :: c38 :: c39 :: c40 :: c41 :: c42 :: c43 :: c44 :: c45 :: c46 :: c47 :: c48 :: c49 :: c50 :: c51 :: c52 :: c53 :: c54 :: c55 :: c56 :: c57 :: c58 :: c59 :: c60 :: c61 :: c62 :: c63 :: c64 :: c65 :: c66 :: c67 :: c68 :: c69 :: c70 :: c71 :: c72 :: c73 :: c74 :: c75 :: c76 :: c77 :: c78 :: c79 :: c80 :: c81 :: c82 :: c83 :: c84 :: c85 :: c86 :: c87 :: c88 :: c89 :: c90 :: c91 :: c92 :: c93 :: c94 :: c95 :: c96 :: c97 :: c98 :: c99 :: c100 :: c101 :: c102 :: c103 :: c104 :: c105 :: c106 :: c107 :: c108 :: c109 :: c110 :: c111 :: c112 :: c113 :: c114 :: c115 :: c116 :: c117 :: c118 :: c119 :: c120 :: c121 :: c122 :: c123 :: c124 :: c125 :: c126 :: c127 :: c128 :: c129 :: c130 :: c131 :: c132 :: c133 :: c134 :: c135 :: c136 :: c137 :: c138 :: c139 :: c140 :: c141 :: c142 :: c143 :: c144 :: c145 :: c146 :: c147 :: c148 :: c149 :: c150 :: c151 :: c152 :: c153 :: c154 :: c155 :: c156 :: c157 :: c158 :: c159 :: c160 :: c161 :: c162 :: c163 :: c164 :: c165 :: c166 :: c167 :: c168 :: c169 :: c170 :: c171 :: c172 :: c173 :: c174 :: c175 :: c176 :: c177 :: c178 :: c179 :: c180 :: c181 :: c182 :: c183 :: c184 :: c185 :: c186 :: c187 :: c188 :: c189 :: c190 :: c191 :: c192 :: c193 :: c194 :: c195 :: c196 :: c197 :: c198 :: c199 :: c200 :: c201 :: c202 :: c203 :: c204 :: c205 :: c206 :: c207 :: c208 :: c209 :: c210 :: c211 :: c212 :: c213 :: c214 :: c215 :: c216 :: c217 :: c218 :: c219 :: c220 :: c221 :: c222 :: c223 :: c224 :: c225 :: c226 :: c227 :: c228 :: c229 :: c230 :: c231 :: c232 :: c233 :: c234 :: c235 :: c236 :: c237 :: c238 :: c239 :: c240 :: c241 :: c242 :: c243 :: c244 :: c245 :: c246 :: c247 :: c248 :: c249 :: c250 :: c251 :: c252 :: c253 :: c254 :: c255 :: c256 :: c257 :: c258 :: c259 :: c260 :: c261 :: c262 :: c263 :: c264 :: c265 :: c266 :: c267 :: c268 :: c269 :: c270 :: c271 :: c272 :: c273 :: c274 :: c275 :: c276 :: c277 :: c278 :: c279 :: c280 :: c281 :: c282 :: c283 :: c284 :: c285 :: c286 :: c287 :: c288 :: c289 :: c290 :: c291 :: c292 :: c293 :: c294 :: c295 :: c296 :: c297 :: c298 :: c299 :: c300 :: c301 :: c302 :: c303 :: c304 :: c305 :: c306 :: c307 :: c308 :: c309 :: c310 :: c311 :: c312 :: c313 :: c314 :: c315 :: c316 :: c317 :: c318 :: c319 :: c320 :: c321 :: c322 :: c323 :: c324 :: c325 :: c326 :: c327 :: c328 :: c329 :: c330 :: c331 :: c332 :: c333 :: c334 :: c335 :: c336 :: c337 :: c338 :: c339 :: c340 :: c341 :: c342 :: c343 :: c344 :: c345 :: c346 :: c347 :: c348 :: c349 :: c350 :: c351 :: c352 :: c353 :: c354 :: c355 :: c356 :: c357 :: c358 :: c359 :: c360 :: c361 :: c362 :: c363 :: c364 :: c365 :: c366 :: c367 :: c368 :: c369 :: c370 :: c371 :: c372 :: c373 :: c374 :: c375 :: c376 :: c377 :: c378 :: c379 :: c380 :: c381 :: c382 :: c383 :: c384 :: c385 :: c386 :: c387 :: c388 :: c389 :: c390 :: c391 :: c392 :: c393 :: c394 :: c395 :: c396 :: c397 :: c398 :: c399 :: c400 :: c401 :: c402 :: c403 :: c404 :: c405 :: c406 :: c407 :: c408 :: c409 :: c410 :: c411 :: c412 :: c413 :: c414 :: c415 :: c416 :: c417 :: c418 :: c419 :: c420 :: c421 :: c422 :: c423 :: c424 :: c425 :: c426 :: c427 :: c428 :: c429 :: c430 :: c431 :: c432 :: c433 :: c434 :: c435 :: c436 :: c437 :: c438 :: c439 :: c440 :: c441 :: c442 :: c443 :: c444 :: c445 :: c446 :: c447 :: c448 :: c449 :: c450 :: c451 :: c452 :: c453 :: c454 :: c455 :: c456 :: c457 :: c458 :: []).toArray, []⟩ w := by
  have FB : Hid (Fb d g.m0 u m pu gn fr f id obj) := fb
  have HAB : Hid (fr = true → ∃ jf, Last (fun j => d.PF j = f) d.n4 jf ∧ (ab = true ↔ ∃ t, t < d.Al jf ∧ d.AS jf t = obj)) := hab
  have HA : Hid (Aft d g y d2 d3 d4 d5 u gn fr f id obj w0 w) := ha
  have SZ : Hid (Szs d) := sz
  have hb4 := sz.b4
  clear fb sz ha hab
  conv => arg 2; whnf
  go_wp2
  go_loopw [380] (fun s wr => ∃ k : Nat, k ≤ d.n4 ∧ s = .int .i64 k ∧ Aft d g y d2 d3 d4 d5 u gn fr f id obj w0 wr) (fun i _ => d.n4 - (intOf i).toNat)
  case atStart => exact ⟨0, Nat.zero_le _, rfl, HA.out⟩
  case round =>
    obtain ⟨k, hk, rfl, hg⟩ := hrel
    have HG : Hid (Aft d g y d2 d3 d4 d5 u gn fr f id obj w0 wr) := hg
    clear hg HA
    by_cases hlt : k < d.n4
    · obtain ⟨j, hjl, lk0⟩ := idx_look (HG.out.ix.below (Below.new wr (.cells #[.int .i64 (d.PF k), .slice (d.Qa k) (d.Ql k) (d.Qc k), .slice (y.Aa k) (d.Al k) (y.Ac k)] 45))) hlt
      have HKK := HG.out.h4' k hlt
      have hbql := (SZ.out.bq k hlt).1
      have hbal := (SZ.out.bq k hlt).2
      obtain ⟨b, off, rfl, hbw, hc⟩ := HG.out.h4.at hlt
      have q0 := hc k hlt 0 (by omega)
      have q1 := hc k hlt 1 (by omega)
      have q2 := hc k hlt 2 (by omega)
      simp only [pulF, Nat.add_zero] at q0 q1 q2
      clear hc
      obtain ⟨i, hI⟩ : ∃ i, d.PF k = i := ⟨_, rfl⟩
      rw [hI] at q0 lk0 hjl
      have HLJ : Hid (Last (fun j => d.PF j = i) d.n4 j) := hjl
      obtain ⟨R, hR⟩ : ∃ R, wr.heap.size = R := ⟨_, rfl⟩
      obtain ⟨wa, hwa⟩ : ∃ wa, wr.alloc (.cells #[.int .i64 i, .slice (d.Qa k) (d.Ql k) (d.Qc k), .slice (y.Aa k) (d.Al k) (y.Ac k)] 45) = wa := ⟨_, rfl⟩
      have ba : Below wr.heap.size wr wa := hwa ▸ Below.new _ _
      have hblk : wa.heap[R]? = some (.cells #[.int .i64 i, .slice (d.Qa k) (d.Ql k) (d.Qc k), .slice (y.Aa k) (d.Al k) (y.Ac k)] 45 (0, 0)) := by rw [← hwa, ← hR]; exact block_alloc_at _ _
      have x0 : wa.cell? ⟨R, 0, none⟩ = some (.int .i64 i) := by simp [World.cell?, hblk]
      have x1 : wa.cell? ⟨R, 1, none⟩ = some (.slice (d.Qa k) (d.Ql k) (d.Qc k)) := by simp [World.cell?, hblk]
      have x2 : wa.cell? ⟨R, 2, none⟩ = some (.slice (y.Aa k) (d.Al k) (y.Ac k)) := by simp [World.cell?, hblk]
      have GA : Hid (Aft d g y d2 d3 (some ⟨b, off, none⟩) d5 u gn fr f id obj w0 wa) := HG.out.below ba
      have lk : (Instr.lookup 31 (.map (some y.bi)) (.int .i64 i) false).run Try.prog wa = .ok (.int .i64 j) wa := by rw [← hwa]; exact lk0
      have HLT : Hid (k < d.n4) := hlt
      clear hblk ba HKK hjl hI HG lk0
      by_cases hjk : j = k
      · subst hjk
        go_upto_region 88 with fail
        go_cut [401] from 383 to 457 (fun z wx => z = .bool false ∧ Below wa.heap.size wa wx)
        case first =>
          go_quiet ((first
            | (go_at_call 18; exact Calls.quiet_of_same (queue_x (GA.out.drewN _).px HLJ.out))
            | (go_at_call 17; exact Calls.quiet_of (sameStrings_q (d.Qa j) (d.Ql j) (d.Qc j) (y.QS j) _ ((GA.out.drewN _).h4' j HLT.out).2 hbql))))
          go_wp2
          go_meet
          exact ⟨rfl, below_drewN (Below.refl _ _) _⟩
        case rest =>
          obtain ⟨rfl, hbb⟩ := hcut
          have GB : Hid (Aft d g y d2 d3 (some ⟨b, off, none⟩) d5 u gn fr f id obj w0 wc) := GA.out.below hbb
          have z0 := (hbb.cell (cell_lt x0)).trans x0
          have z2 := (hbb.cell (cell_lt x2)).trans x2
          clear hbb x0 x1 x2 GA hwa q0 q1 q2 lk hR
          go_upto_region 90 with fail
          go_cut [50] from 383 to 457 (fun z wx => z = .bool (fr && decide (i = f)) ∧ wc = wx)
          case first =>
            cases fr
            · go_wp2
              go_meet
              exact ⟨by simp, rfl⟩
            · by_cases hi : i = f
              · subst hi
                go_wp2
                go_meet
                exact ⟨by simp, rfl⟩
              · go_wp2
                go_meet
                exact ⟨by simp [hi], rfl⟩
          case rest =>
            obtain ⟨rfl, hwx⟩ := hcut
            obtain rfl := hwx.symm
            clear hwx
            obtain ⟨hr, hhr⟩ : ∃ hr, (fr && decide (i = f)) = hr := ⟨_, rfl⟩
            rw [hhr]
            have HHR : Hid (hr = true → fr = true ∧ i = f) := fun h => by
              rw [h] at hhr
              simpa using hhr
            have HHF : Hid (hr = false → ∀ s, ¬ RMa fr f obj i s) := fun h s hs => by
              rw [h] at hhr
              simp [hs.1, hs.2.1] at hhr
            clear hhr
            go_wp2_with fail
            refine (setX_any (y.Aa j) (d.Al j) (y.Ac j) (d.AS j) wc (GB.out.h4' j HLT.out).1 hbal).mono ?_
            rintro e w4 ⟨⟨a, rfl, hla, hset⟩, hb4'⟩
            obtain ⟨n, hmn⟩ := hset.map
            have l2 := run_len Try.underlying39 hmn
            have HC : Hid (Card (fun s => ∃ t, t < d.Al j ∧ d.AS j t = s) n) := hset.card hmn
            have hnb : n ≤ 1048576 := Nat.le_trans (card_le (O := d.AS j) HC.out fun s h => h) hbal
            have GC : Hid (Aft d g y d2 d3 (some ⟨b, off, none⟩) d5 u gn fr f id obj w0 w4) := GB.out.below hb4'
            have y0 := (hb4'.cell (cell_lt z0)).trans z0
            have y2 := (hb4'.cell (cell_lt z2)).trans z2
            obtain ⟨n', hn'⟩ := HC.out.ex (RMa fr f obj i)
            have HN : Hid (n = if (hr && ab) then n' + 1 else n') := cnt2 (obj := obj) HC.out hn' (fun h => by
                simp only [Bool.and_eq_true] at h
                obtain ⟨h1, h2⟩ := h
                obtain ⟨hf1, hf2⟩ := HHR.out h1
                obtain ⟨jf, hjf, hiff⟩ := HAB.out hf1
                have hL := HLJ.out
                rw [hf2] at hL
                obtain rfl := last_uniq hL hjf
                exact ⟨hiff.1 h2, fun s => by simp [RMa, hf1, hf2]⟩) (fun h s hp hs => by
                cases hr with
                | false => exact HHF.out rfl s hs
                | true =>
                  simp only [Bool.true_and] at h
                  obtain ⟨hf1, hf2⟩ := HHR.out rfl
                  obtain ⟨jf, hjf, hiff⟩ := HAB.out hf1
                  have hL := HLJ.out
                  rw [hf2] at hL
                  obtain rfl := last_uniq hL hjf
                  rw [hs.2.2] at hp
                  rw [hiff.2 hp] at h
                  cases h)
            have HC' : Hid (Card (fun s => (∃ t, t < d.Al j ∧ d.AS j t = s) ∧ ¬ RMa fr f obj i s) n') := hn'
            clear hla hset hb4' hmn hn' z0 z2 GB
            go_upto_region 92 with fail
            go_cut [416] from 383 to 457 (fun z wx => z = .bool (hr && ab) ∧ w4 = wx)
            case first =>
              cases hr
              · go_wp2
                go_meet
                exact ⟨by simp, rfl⟩
              · go_wp2
                go_meet
                exact ⟨by simp, rfl⟩
            case rest =>
              obtain ⟨rfl, rfl⟩ := hcut
              have hn2 := HN.out
              generalize (hr && ab) = c at *
              go_upto_if 416 with fail
              go_cut [51] from 383 to 457 (fun z wx => z = .int .i64 n' ∧ w4 = wx)
              case first =>
                cases c
                · simp only [Bool.false_eq_true, if_false] at hn2
                  subst hn2
                  go_wp2
                  go_meet
                  exact ⟨rfl, rfl⟩
                · simp only [if_true] at hn2
                  subst hn2
                  go_wp2
                  go_meet
                  exact ⟨by go_num, rfl⟩
              case rest =>
                obtain ⟨rfl, rfl⟩ := hcut
                clear hn2 HN l2
                go_wp2_with fail
                refine (askedLen_x GC.out.px HLJ.out).mono ?_
                rintro e w5 ⟨⟨n2, rfl, hc2⟩, hx⟩
                obtain rfl := hx.symm
                obtain rfl := HC'.out.uniq hc2
                clear hx hc2 HC' HC
                go_wp2
                go_loopw [427] (fun z wx => ∃ t : Nat, t ≤ d.Al j ∧ z = .int .i64 t ∧ w4 = wx) (fun z _ => d.Al j - (intOf z).toNat)
                case atStart => exact ⟨0, Nat.zero_le _, rfl, rfl⟩
                case round =>
                  obtain ⟨t, ht, rfl, rfl⟩ := hrel
                  by_cases hlt2 : t < d.Al j
                  · obtain ⟨bq, offq, hxq, hbq, hcq⟩ := (GC.out.h4' j HLT.out).1.at hlt2
                    have p0 := hcq t hlt2
                    rw [hxq] at y2
                    have HP : Hid (∃ t, t < d.Al j ∧ d.AS j t = d.AS j t) := ⟨t, hlt2, rfl⟩
                    obtain ⟨s, hs⟩ : ∃ s, d.AS j t = s := ⟨_, rfl⟩
                    have HPS : Hid (∃ t, t < d.Al j ∧ d.AS j t = s) := ⟨t, hlt2, hs⟩
                    rw [hs] at p0
                    clear hcq hxq hs HP
                    cases hr
                    · go_wp2_with fail
                      refine (asked_x (b := true) (s := s) GC.out.px HLJ.out ⟨fun _ => ⟨HPS.out, HHF.out (by simp) s⟩, fun _ => rfl⟩).mono ?_
                      rintro e w5 ⟨rfl, hx⟩
                      obtain rfl := hx.symm
                      clear hx
                      go_wp2
                      go_roundw
                      case rel => exact ⟨t + 1, by omega, by go_num, trivial⟩
                      case measure => simp [intOf]; omega
                    · by_cases hso : s = obj
                      · subst hso
                        go_wp2_with fail
                        refine (asked_x (b := false) (s := s) GC.out.px HLJ.out ⟨fun h => (by cases h), fun h => absurd ⟨(HHR.out (by simp)).1, (HHR.out (by simp)).2, rfl⟩ h.2⟩).mono ?_
                        rintro e w5 ⟨rfl, hx⟩
                        obtain rfl := hx.symm
                        clear hx
                        go_wp2
                        go_roundw
                        case rel => exact ⟨t + 1, by omega, by go_num, trivial⟩
                        case measure => simp [intOf]; omega
                      · have hsb := str_ne hso
                        go_wp2_with fail
                        refine (asked_x (b := true) (s := s) GC.out.px HLJ.out ⟨fun _ => ⟨HPS.out, fun h => hso h.2.2⟩, fun _ => rfl⟩).mono ?_
                        rintro e w5 ⟨rfl, hx⟩
                        obtain rfl := hx.symm
                        clear hx
                        go_wp2
                        go_roundw
                        case rel => exact ⟨t + 1, by omega, by go_num, trivial⟩
                        case measure => simp [intOf]; omega
                  · cases hr
                    · go_wp2
                      go_roundw
                      case rel => exact ⟨j + 1, by omega, by go_num, GC.out⟩
                      case measure => simp [intOf]; omega
                    · go_wp2_with fail
                      refine (asked_x (b := false) (s := obj) GC.out.px HLJ.out ⟨fun h => (by cases h), fun h => absurd ⟨(HHR.out (by simp)).1, (HHR.out (by simp)).2, rfl⟩ h.2⟩).mono ?_
                      rintro e w5 ⟨rfl, hx⟩
                      obtain rfl := hx.symm
                      clear hx
                      go_wp2
                      go_roundw
                      case rel => exact ⟨j + 1, by omega, by go_num, GC.out⟩
                      case measure => simp [intOf]; omega
      · have hne : ((j : Int) != (k : Int)) = true := by simp; omega
        go_wp2
        go_roundw
        case rel => exact ⟨k + 1, by omega, by go_num, GA.out⟩
        case measure => simp [intOf]; omega
    · go_wp2
      exact Met.intro (hJ.out HG.out)

end Go.Proofs.Qxb6601307a
