/-
  The law's walk, part I: behind the first loop, as far as the law's own look at the queues. Own work on this program.
-/
import Derived.Test.YbulkbhqsDoorFin
import Derived.Deep.CutRange
namespace Go.Proofs.YbulkbhqsDoor
open Go.RowKit
set_option linter.unusedVariables false

theorem end_both {N : Nat} {en : Bool} {s : Gs} {W0 w : World} (h : Mem N en s W0 w) {n : Nat} (p : Pur s n 6) (hn : n ≤ 512) :
    Calls Ybad.prog 6 #[pt (N + 5), pt (N + 6)] w fun e w' => e = .returned (.tuple #[]) ∧ (∃ l row inn ex, Fin N en s l row inn ex W0 w') ∧ w'.heap[N + 7]? = w.heap[N + 7]? ∧
      w'.heap[N + 6]? = some (.cells (txc (N + 5) 1 (if en = true then s.R 12 else .slice none 0 0) (if en = true then s.R 13 else .slice none 0 0) true (if en = true then s.K else 0)) 37 (0, 0)) := by
  obtain ⟨q, st, hs⟩ := h.qs p hn
  cases en with
  | true =>
    refine (end_shut (W := w) (N + 5) (N + 6) (tx_cells h.tx).2.2.2.2.2.1).mono ?_
    rintro e w' ⟨rfl, rfl⟩
    exact ⟨rfl, ⟨_, _, _, _, h.finShut p hn⟩, rfl, h.tx⟩
  | false =>
    have h12 := h.rows.own 12 (by omega)
    have h13 := h.rows.own 13 (by omega)
    have l12 := p.len 12 (by omega)
    have l13 := p.len 13 (by omega)
    refine (end_open (g := s.gh N) q st hs h.tx p.cnt h12 h13 (by omega) (by omega) (fun o ho ht => by rw [p.inn o ho]; exact ht)).mono ?_
    rintro e w' ⟨rfl, he⟩
    obtain ⟨f1, f2, f3⟩ := h.finOpen p hn he
    exact ⟨rfl, f1, f2, f3⟩

set_option maxRecDepth 100000 in
set_option maxHeartbeats 4000000 in
def partI : (S1 : Prop) ×' (S2 : Prop) ×' ((Tok → S1) → (Tok → S2) → partB.2.1) := by
  refine ⟨?S1, ?S2, fun hS1 hS2 => ?main⟩
  case main =>
  delta partB
  dsimp only
  set_option tactic.hygienic false in intros
  obtain ⟨M, p⟩ := H.out
  have HE := (show Hid _ from end_both M p hl2)
  have hk2 := p.k2
  have hk1 : s.K ≤ 1024 := by
    rw [p.cnt]
    refine Nat.le_trans List.countP_le_length ?_
    have h12 := p.len 12 (by omega)
    have h13 := p.len 13 (by omega)
    simp
    omega
  obtain ⟨t2, -, -, t5, -, -, t11⟩ := tx_cells M.tx
  obtain ⟨u2', -, -, u5', -, -, u11'⟩ := tx_cells M.ux
  obtain ⟨a12, cap12, e12⟩ := slice_form (M.rows.own 12 (by omega))
  obtain ⟨a13, cap13, e13⟩ := slice_form (M.rows.own 13 (by omega))
  obtain ⟨a14, cap14, e14⟩ := slice_form (M.rows.own 14 (by omega))
  obtain ⟨a15, cap15, e15⟩ := slice_form (M.rows.own 15 (by omega))
  have hux := M.ux
  rw [e12] at t2
  rw [e13] at t5
  rw [e14] at u2'
  rw [e15] at u5'
  rw [e14, e15] at hux
  rw [e12, e13] at HE
  have HUX := (show Hid _ from hux)
  simp only [pt] at HE
  clear M p H hux e12 e13 e14 e15
  go_wp2_with fail
  refine (show Calls _ _ _ _ _ from HE.out).mono ?_
  rintro e w2 ⟨rfl, ⟨l, row, inn, ex, F⟩, hu, ht⟩
  have hux2 := hu.trans HUX.out
  obtain ⟨t2', t3', t4', t5', -, t9', t11'⟩ := tx_cells ht
  obtain ⟨u2'', -, -, u5'', -, u9'', u11''⟩ := tx_cells hux2
  have HF := (show Hid _ from F)
  clear F hu ht hux2 HE HUX t2 t5 t11 u2' u5' u11'
  go_upto_if 271 with fail
  go_cut [] from 271 to 328 (fun wx => wx = w2)
  case first =>
    clear HF
    rename_i K0 a0 J1 K1 a01 a02
    clear a0
    revert cap ao en W u11 u12 u13 u14 u15 u16 u48 u49 u50 u51 u52 u53 u54 u55 u56 u57 u58 u59 u60 u61 u62 u63 u64 u65 u66 u67 u68 u69 u70 u71 u72 u73 u74 u75 u76 u77 u78 u79 u80 u81 u82 u83 u84 u85 u86 u87 u88 u89 u90 u91 u92 u93 u94 u95 u96 u97 u98 u99 u100 u101 u102 u103 u104 u105 u106 u107 u108 u109 u110 u111 u112 u113 u114 u115 u116 u117 u118 u119 u120 u121 u122 u123 u124 u125 u126 u127 u128 u129 u130 u131 u132 u133 u134 u135 u136 u137 u138 u139 u140 u141 u142 u143 u144 u145 u146 u147 u148 u149 u150 u151 u152 u153 u154 u155 u156 u157 u158 u159 u160 u161 u162 u163 u164 u165 u166 u167 u168 u169 u170 u171 u172 u173 u174 u175 u176 u177 u178 u179 u180 u181 u182 u183 u184 u185 u186 u187 u188 u189 u190 u191 u192 u193 u194 u195 u196 u197 u198 u199 u200 u201 u202 j s hl2 hk2 hk1 a12 cap12 a13 cap13 a14 cap14 a15 cap15 w2 t2' t3' t4' t5' t9' t11' u2'' u5'' u9'' u11'' K0 J1 K1 a01 a02
    exact hS1 .mk
  case rest =>
    obtain rfl := hcut
    clear t2' t3' t4' t5' t9' t11' u2'' u5'' u9'' u11'' hk1 hk2
    go_upto_region 55 with fail
    rename_i K0 a0
    revert cap ao en W u11 u12 u13 u14 u15 u16 u48 u49 u50 u51 u52 u53 u54 u55 u56 u57 u58 u59 u60 u61 u62 u63 u64 u65 u66 u67 u68 u69 u70 u71 u72 u73 u74 u75 u76 u77 u78 u79 u80 u81 u82 u83 u84 u85 u86 u87 u88 u89 u90 u91 u92 u93 u94 u95 u96 u97 u98 u99 u100 u101 u102 u103 u104 u105 u106 u107 u108 u109 u110 u111 u112 u113 u114 u115 u116 u117 u118 u119 u120 u121 u122 u123 u124 u125 u126 u127 u128 u129 u130 u131 u132 u133 u134 u135 u136 u137 u138 u139 u140 u141 u142 u143 u144 u145 u146 u147 u148 u149 u150 u151 u152 u153 u154 u155 u156 u157 u158 u159 u160 u161 u162 u163 u164 u165 u166 u167 u168 u169 u170 u171 u172 u173 u174 u175 u176 u177 u178 u179 u180 u181 u182 u183 u184 u185 u186 u187 u188 u189 u190 u191 u192 u193 u194 u195 u196 u197 u198 u199 u200 u201 u202 u4 u271 u272 u273 u274 u275 u276 u277 u278 u279 u280 u281 u282 u283 u284 u285 u286 u287 u288 u289 u290 u291 u292 u293 u294 u295 u296 u297 u298 u299 u300 u301 u302 u303 u304 u305 u306 u307 u308 u309 u310 u311 u312 u313 u314 u315 u316 u317 u318 u319 u320 u321 u322 u323 u324 u325 u326 u327 u328 j s hl2 a12 cap12 a13 cap13 a14 cap14 a15 cap15 l row inn ex wc HF K0 a0
    exact hS2 .mk
end Go.Proofs.YbulkbhqsDoor
