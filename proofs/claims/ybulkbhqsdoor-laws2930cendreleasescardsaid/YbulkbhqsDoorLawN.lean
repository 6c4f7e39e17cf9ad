/-
  The law's walk, part N: one queue is looked up and held against what is wanted. Own work on this program.
-/
import Derived.Test.YbulkbhqsDoorLawM
namespace Go.Proofs.YbulkbhqsDoor
open Go.RowKit
set_option linter.unusedVariables false

theorem q_neq_same (a : Nat) (w : World) : (binOp .neq 38 (pt a) (pt a)).run Ybad.prog w = .ok (.bool false) w := by
  have h : ∀ d : Nat, (Op.equalIn (d + 1) 38 (pt a) (pt a)).run Ybad.prog w = .ok true w := fun d => by
    obtain ⟨j, hj, _⟩ := Option.map_eq_some_iff.1 Ybad.info51
    simp [Op.equalIn, run_underlying Ybad.underlying38, sizeOf, typeInfo, hj, run_sameAddr_same]
  simp only [binOp]
  simp [Op.equal, Op.maxDepth, h 9999]
theorem r_neq_same (a : Nat) (w : World) : (binOp .neq 29 (pt a) (pt a)).run Ybad.prog w = .ok (.bool false) w := by
  have h : ∀ d : Nat, (Op.equalIn (d + 1) 29 (pt a) (pt a)).run Ybad.prog w = .ok true w := fun d => by
    obtain ⟨j, hj, _⟩ := Option.map_eq_some_iff.1 Ybad.info72
    simp [Op.equalIn, run_underlying Ybad.underlying29, sizeOf, typeInfo, hj, run_sameAddr_same]
  simp only [binOp]
  simp [Op.equal, Op.maxDepth, h 9999]

set_option maxRecDepth 100000 in
set_option maxHeartbeats 4000000 in
def partN : (S1 : Prop) ×' (S2 : Prop) ×' ((Tok → S1) → (Tok → S2) → partM.1) := by
  refine ⟨?S1, ?S2, fun hS1 hS2 => ?main⟩
  case main =>
  delta partM
  dsimp only
  set_option tactic.hygienic false in intros
  go_upto_if 360 with fail
  go_cut [28, 29] (fun got ok wx => got = (if inn i = true then .pointer (some ⟨s.q i, 0, none⟩) else .pointer none) ∧ ok = .bool (inn i) ∧ Hid (Kept [] wr wx))
  case first =>
    rename_i K0 a0 J1 K1' a01 a02
    clear a0 a1 a2 a3 hik
    revert cap ao en W u11 u12 u13 u14 u15 u16 u48 u49 u50 u51 u52 u53 u54 u55 u56 u57 u58 u59 u60 u61 u62 u63 u64 u65 u66 u67 u68 u69 u70 u71 u72 u73 u74 u75 u76 u77 u78 u79 u80 u81 u82 u83 u84 u85 u86 u87 u88 u89 u90 u91 u92 u93 u94 u95 u96 u97 u98 u99 u100 u101 u102 u103 u104 u105 u106 u107 u108 u109 u110 u111 u112 u113 u114 u115 u116 u117 u118 u119 u120 u121 u122 u123 u124 u125 u126 u127 u128 u129 u130 u131 u132 u133 u134 u135 u136 u137 u138 u139 u140 u141 u142 u143 u144 u145 u146 u147 u148 u149 u150 u151 u152 u153 u154 u155 u156 u157 u158 u159 u160 u161 u162 u163 u164 u165 u166 u167 u168 u169 u170 u171 u172 u173 u174 u175 u176 u177 u178 u179 u180 u181 u182 u183 u184 u185 u186 u187 u188 u189 u190 u191 u192 u193 u194 u195 u196 u197 u198 u199 u200 u201 u202 u271 u272 u273 u274 u275 u276 u277 u278 u279 u280 u281 u282 u283 u284 u285 u286 u287 u288 u289 u290 u291 u292 u293 u294 u295 u296 u297 u298 u299 u300 u301 u302 u303 u304 u305 u306 u307 u308 u309 u310 u311 u312 u313 u314 u315 u316 u317 u318 u319 u320 u321 u322 u323 u324 u325 u326 u327 u328 u4 u28 u29 u30 u329 u330 u331 u332 u333 u334 u335 u336 u337 u338 u339 u340 u341 u359 u360 u361 u362 u363 u364 u365 u366 u367 u368 u369 u370 u371 u372 u373 u374 u375 u376 u377 u378 u379 u380 u381 u382 u383 u384 u385 u386 u387 u388 u389 u390 u391 u392 u393 u394 u395 u396 u397 u398 u399 u400 u401 u402 u403 u404 u405 u406 u407 u408 u409 u410 u411 u412 u413 u414 u415 u416 u417 u418 u419 u420 u421 u422 u423 u424 u425 u426 u427 u428 u429 u430 u431 u432 u433 u434 u435 u436 u437 u25 u27 u342 u343 u344 u345 u346 u347 u348 u349 u350 u351 u352 u353 u354 u355 u356 u357 u358 j s hl2 a12 cap12 a13 cap13 a14 cap14 a15 cap15 l row inn ex K3 J K2 i hi6 hoi hoi2 hth K1 ar capr wr HZ K0 J1 K1' a01 a02
    exact hS1 .mk
  case rest =>
    rename_i K0 a0
    revert cap ao en W u11 u12 u13 u14 u15 u16 u48 u49 u50 u51 u52 u53 u54 u55 u56 u57 u58 u59 u60 u61 u62 u63 u64 u65 u66 u67 u68 u69 u70 u71 u72 u73 u74 u75 u76 u77 u78 u79 u80 u81 u82 u83 u84 u85 u86 u87 u88 u89 u90 u91 u92 u93 u94 u95 u96 u97 u98 u99 u100 u101 u102 u103 u104 u105 u106 u107 u108 u109 u110 u111 u112 u113 u114 u115 u116 u117 u118 u119 u120 u121 u122 u123 u124 u125 u126 u127 u128 u129 u130 u131 u132 u133 u134 u135 u136 u137 u138 u139 u140 u141 u142 u143 u144 u145 u146 u147 u148 u149 u150 u151 u152 u153 u154 u155 u156 u157 u158 u159 u160 u161 u162 u163 u164 u165 u166 u167 u168 u169 u170 u171 u172 u173 u174 u175 u176 u177 u178 u179 u180 u181 u182 u183 u184 u185 u186 u187 u188 u189 u190 u191 u192 u193 u194 u195 u196 u197 u198 u199 u200 u201 u202 u271 u272 u273 u274 u275 u276 u277 u278 u279 u280 u281 u282 u283 u284 u285 u286 u287 u288 u289 u290 u291 u292 u293 u294 u295 u296 u297 u298 u299 u300 u301 u302 u303 u304 u305 u306 u307 u308 u309 u310 u311 u312 u313 u314 u315 u316 u317 u318 u319 u320 u321 u322 u323 u324 u325 u326 u327 u328 u4 u30 u339 u340 u341 u419 u420 u25 u27 u28 u29 u329 u330 u331 u332 u333 u334 u335 u336 u337 u338 u342 u343 u344 u345 u346 u347 u348 u349 u350 u351 u352 u353 u354 u355 u356 u357 u358 u359 u360 u361 u362 u363 u364 u365 u366 u367 u368 u369 u370 u371 u372 u373 u374 u375 u376 u377 u378 u379 u380 u381 u382 u383 u384 u385 u386 u387 u388 u389 u390 u391 u392 u393 u394 u395 u396 u397 u398 u399 u400 u401 u402 u403 u404 u405 u406 u407 u408 u409 u410 u411 u412 u413 u414 u415 u416 u417 u418 u421 u422 u423 u424 u425 u426 u427 u428 u429 u430 u431 u432 u433 u434 u435 u436 u437 j s hl2 a12 cap12 a13 cap13 a14 cap14 a15 cap15 l row inn ex K3 J K2 a3 i k a2 hik hi6 hoi hoi2 hth K1 a1 ar capr wr HZ K0 a0 wc hcut
    exact hS2 .mk
end Go.Proofs.YbulkbhqsDoor
