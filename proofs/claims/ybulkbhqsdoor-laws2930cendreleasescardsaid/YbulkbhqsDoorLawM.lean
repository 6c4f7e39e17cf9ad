/-
  The law's walk, part M: what is wanted of one queue. Own work on this program.
-/
import Derived.Test.YbulkbhqsDoorLawK
namespace Go.Proofs.YbulkbhqsDoor
open Go.RowKit
set_option linter.unusedVariables false

theorem Ybad.info37 : (Ybad.prog.info? 37).map (fun i => (i.zero.isSome, decide (i.size = 0))) = some (true, false) := by kernel_rfl

theorem txn_neq_same (a : Nat) (w : World) : (binOp .neq 25 (pt a) (pt a)).run Ybad.prog w = .ok (.bool false) w := by
  obtain ⟨j, hj, _⟩ := Option.map_eq_some_iff.1 Ybad.info37
  have h : ∀ d : Nat, (Op.equalIn (d + 1) 25 (pt a) (pt a)).run Ybad.prog w = .ok true w := fun d => by
    simp [Op.equalIn, run_underlying Ybad.underlying25, sizeOf, typeInfo, hj, run_sameAddr_same]
  simp only [binOp]
  simp [Op.equal, Op.maxDepth, h 9999]

theorem txn_neq_other {a b : Nat} {w : World} (hne : a ≠ b) (ha : ∃ c, w.heap[a]? = some (.cells c 37 (0, 0))) (hb : ∃ c, w.heap[b]? = some (.cells c 37 (0, 0))) : (binOp .neq 25 (pt a) (pt b)).run Ybad.prog w = .ok (.bool true) w := by
  obtain ⟨j, hj, hs⟩ := Option.map_eq_some_iff.1 Ybad.info37
  obtain ⟨ca, ha⟩ := ha
  obtain ⟨cb, hb⟩ := hb
  simp at hs
  have h : ∀ d : Nat, (Op.equalIn (d + 1) 25 (pt a) (pt b)).run Ybad.prog w = .ok false w := fun d => by
    simp [Op.equalIn, run_underlying Ybad.underlying25, sizeOf, typeInfo, hj, hs.2, run_sameAddr_other w (a := ⟨a, 0, none⟩) (b := ⟨b, 0, none⟩) (by simp) ha hb]
  simp only [binOp]
  simp [Op.equal, Op.maxDepth, h 9999]

theorem take_filter {P : Nat → Bool} {L : List Nat} {k : Nat} (hk : k < L.length) : (L.take (k + 1)).filter P = (L.take k).filter P ++ (if P L[k] = true then [L[k]] else []) := by
  rw [List.take_succ_eq_append_getElem hk, List.filter_append]
  congr 1
  by_cases h : P L[k] = true <;> simp [h]

/-- The row of what is wanted grows by one. -/
theorem want_append {w0 w : World} {v : Value} {L : List Nat} (k : Kept [] w0 w) (h : w.ownsRow w0.heap.size 29 1 v L.length (ptrs L)) (hl : L.length ≤ 1024) (r : Nat) :
    ∃ v' w', (Builtin.append_ #[27, 27] 27 #[v, .slice (some ⟨w.heap.size, 0, none⟩) 1 1]).run Ybad.prog (w.alloc (.cells #[pt r] 29 (0, 0))) = .ok v' w' ∧ Kept [] w0 w' ∧ w'.ownsRow w0.heap.size 29 1 v' (L ++ [r]).length (ptrs (L ++ [r])) := by
  have h1 : (w.alloc (.cells #[pt r] 29 (0, 0))).ownsRow w0.heap.size 29 1 (.slice (some ⟨w.heap.size, 0, none⟩) 1 1) 1 (ptrs [r]) :=
    ⟨rfl, .inr ⟨w.heap.size, 1, #[pt r], rfl, k.size, heap_alloc_new _ _, Nat.le_refl _, by unfold maxLen; omega, rfl, rfl⟩⟩
  obtain ⟨v', w', hr, h2, h3, h5⟩ := append_rows (h.alloc (.cells #[pt r] 29 (0, 0))) h1 (by omega) (by omega) (by have := k.size; simp; omega)
  refine ⟨v', w', hr, ?_, by simpa using h2⟩
  refine (k.trans (Kept.alloc _ _ _)).andThen (Kept.grown h3 v.ownBlock.toList (by simp)) (fun x hx => .inr ?_)
  rcases h.2 with ⟨e, _⟩ | ⟨g, cap, cur, e, hge, _⟩
  · rw [e] at hx; simp [Value.ownBlock] at hx
  · rw [e] at hx; simp [Value.ownBlock] at hx; omega

set_option maxRecDepth 100000 in
set_option maxHeartbeats 4000000 in
def partM : (S1 : Prop) ×' ((Tok → S1) → partK.2.1) := by
  refine ⟨?S1, fun hS1 => ?main⟩
  case main =>
  delta partK
  dsimp only
  set_option tactic.hygienic false in intros
  rename World => w0
  have F : Fin _ _ _ _ _ _ _ _ _ := H.out
  obtain ⟨-, q2, -, -⟩ := F.cells hi6
  obtain ⟨ar, capr, er⟩ := slice_form (F.rows i hi6)
  rw [er] at q2
  have hlen := F.len i hi6
  have ER := (show Hid _ from er)
  clear F er
  go_wp2_with fail
  go_loopg [25, 341] (s.A i).length (fun k want c wr => ∃ (jj : Nat), jj + k = (s.A i).length ∧ c = .int .i64 jj ∧ Hid (Kept [] w0 wr ∧ wr.ownsRow w0.heap.size 29 1 want (((s.A i).take jj).filter (fun r => en || !s.own r)).length (ptrs (((s.A i).take jj).filter (fun r => en || !s.own r)))))
  case atStart => exact ⟨0, by omega, rfl, Kept.refl _ _, World.ownsRow_nil _ _ _ _⟩
  case round =>
    obtain ⟨jj, hjk, rfl, HR⟩ := hrel
    cases gk with
    | zero =>
      obtain rfl : jj = (s.A i).length := by omega
      have HZ : Hid (Fin W.heap.size en s l row inn ex W wr ∧ ∃ B, wr.ownsRow B 29 1 u25 (l i).length (ptrs (l i))) := by
        obtain ⟨kw, hw⟩ := HR.out
        have F0 : Fin _ _ _ _ _ _ _ _ _ := H.out
        rw [List.take_length] at hw
        rw [← F0.ll i hi6] at hw
        exact ⟨F0.kept kw, _, hw⟩
      go_upto_region 67 with fail
      rename_i K3' J' K2' a3' a2' K1' a1' K0 a0
      clear a3' a2' a1' HR hjk K1' K2' J' K3' H ER q1 q2 w0 hlen
      revert cap ao en W u11 u12 u13 u14 u15 u16 u48 u49 u50 u51 u52 u53 u54 u55 u56 u57 u58 u59 u60 u61 u62 u63 u64 u65 u66 u67 u68 u69 u70 u71 u72 u73 u74 u75 u76 u77 u78 u79 u80 u81 u82 u83 u84 u85 u86 u87 u88 u89 u90 u91 u92 u93 u94 u95 u96 u97 u98 u99 u100 u101 u102 u103 u104 u105 u106 u107 u108 u109 u110 u111 u112 u113 u114 u115 u116 u117 u118 u119 u120 u121 u122 u123 u124 u125 u126 u127 u128 u129 u130 u131 u132 u133 u134 u135 u136 u137 u138 u139 u140 u141 u142 u143 u144 u145 u146 u147 u148 u149 u150 u151 u152 u153 u154 u155 u156 u157 u158 u159 u160 u161 u162 u163 u164 u165 u166 u167 u168 u169 u170 u171 u172 u173 u174 u175 u176 u177 u178 u179 u180 u181 u182 u183 u184 u185 u186 u187 u188 u189 u190 u191 u192 u193 u194 u195 u196 u197 u198 u199 u200 u201 u202 u271 u272 u273 u274 u275 u276 u277 u278 u279 u280 u281 u282 u283 u284 u285 u286 u287 u288 u289 u290 u291 u292 u293 u294 u295 u296 u297 u298 u299 u300 u301 u302 u303 u304 u305 u306 u307 u308 u309 u310 u311 u312 u313 u314 u315 u316 u317 u318 u319 u320 u321 u322 u323 u324 u325 u326 u327 u328 u4 u28 u29 u30 u329 u330 u331 u332 u333 u334 u335 u336 u337 u338 u339 u340 u341 u359 u360 u361 u362 u363 u364 u365 u366 u367 u368 u369 u370 u371 u372 u373 u374 u375 u376 u377 u378 u379 u380 u381 u382 u383 u384 u385 u386 u387 u388 u389 u390 u391 u392 u393 u394 u395 u396 u397 u398 u399 u400 u401 u402 u403 u404 u405 u406 u407 u408 u409 u410 u411 u412 u413 u414 u415 u416 u417 u418 u419 u420 u421 u422 u423 u424 u425 u426 u427 u428 u429 u430 u431 u432 u433 u434 u435 u436 u437 u25 u27 u342 u343 u344 u345 u346 u347 u348 u349 u350 u351 u352 u353 u354 u355 u356 u357 u358 j s hl2 a12 cap12 a13 cap13 a14 cap14 a15 cap15 l row inn ex K3 J K2 a3 i k a2 hik hi6 hoi hoi2 hth K1 a1 ar capr wr HZ K0 a0
      exact hS1 .mk
    | succ kk =>
      have hjl : jj < (s.A i).length := by omega
      obtain ⟨kw, hw⟩ := HR.out
      have F0 : Fin _ _ _ _ _ _ _ _ _ := H.out
      have F := F0.kept kw
      have er : s.R (6 + i) = _ := ER.out
      have hrow := F.rows i hi6
      rw [er] at hrow
      obtain ⟨gb, cap', hgb⟩ := owns_succ hrow (by omega)
      cases hgb
      have c1 : wr.cell? ⟨gb, jj, none⟩ = some (pt (s.A i)[jj]) := (hrow.cellAt jj (by omega)).trans (ptrs_at (s.A i) jj hjl)
      have rq := (F.qs.reqs i (s.A i)[jj] hi6 (List.getElem_mem hjl)).txn
      have hfil := take_filter (P := fun r => en || !s.own r) hjl
      have hlw : (((s.A i).take jj).filter (fun r => en || !s.own r)).length ≤ 1024 := Nat.le_trans (List.length_filter_le _ _) (by simp; omega)
      obtain ⟨v', w', hap, kw', hw'⟩ := want_append kw hw hlw (s.A i)[jj]
      obtain ⟨aw, capw, rfl⟩ := slice_form hw
      have hne : W.heap.size + 7 ≠ W.heap.size + 6 := by omega
      have hoth := txn_neq_other hne F.une F.tne
      have hsam := txn_neq_same (W.heap.size + 6) wr
      have HN := (show Hid _ from And.intro kw (And.intro hw (And.intro kw' (And.intro hw' hfil))))
      obtain ⟨a', n', cap'', e'⟩ : ∃ a' n' cap'', v' = .slice a' n' cap'' := by
        obtain ⟨a', cap'', e'⟩ := slice_form hw'
        exact ⟨a', _, cap'', e'⟩
      generalize hrr : (s.A i)[jj] = r at c1 rq hap HN hfil
      subst e'
      simp only [pt] at c1 hap hoth hsam rq
      have HAP := (show Hid _ from hap)
      clear F0 F er hrow kw hw kw' hw' hfil hap hlw hrr ER hne
      by_cases hP : (en || !s.own r) = true
      · cases hen : en with
        | true =>
          subst hen
          clear rq hoth hsam
          go_wp2_with (first | (at_builtin; refine Lib.wpList_append_run _ rfl (.tmp 354) (.tmp 356) 27 27 rfl _ (.slice (some ⟨wr.heap.size, 0, none⟩) 1 1) rfl rfl _ _ HAP.out ?_) | go_in)
          go_roundg kk
          case measure => omega
          case rel =>
            obtain ⟨kw, hw, kw', hw', hfil⟩ := HN.out
            refine ⟨jj + 1, by omega, by go_num, kw', ?_⟩
            rw [hfil, if_pos hP]
            exact hw'
        | false =>
          subst hen
          have ho : s.own r = false := by simpa using hP
          simp only [Gs.gh, ho, Bool.false_eq_true, if_false] at rq
          go_wp2_with (first | (at_builtin; refine Lib.wpList_append_run _ rfl (.tmp 354) (.tmp 356) 27 27 rfl _ (.slice (some ⟨wr.heap.size, 0, none⟩) 1 1) rfl rfl _ _ HAP.out ?_) | go_in)
          go_roundg kk
          case measure => omega
          case rel =>
            obtain ⟨kw, hw, kw', hw', hfil⟩ := HN.out
            refine ⟨jj + 1, by omega, by go_num, kw', ?_⟩
            rw [hfil, if_pos hP]
            exact hw'
      · have hen : en = false := by
          cases en with
          | true => simp at hP
          | false => rfl
        subst hen
        have ho : s.own r = true := by simpa using hP
        simp only [Gs.gh, ho, if_true] at rq
        go_wp2_with fail
        go_roundg kk
        case measure => omega
        case rel =>
          obtain ⟨kw, hw, kw', hw', hfil⟩ := HN.out
          refine ⟨jj + 1, by omega, by go_num, kw, ?_⟩
          rw [hfil, if_neg hP, List.append_nil]
          exact hw
end Go.Proofs.YbulkbhqsDoor
