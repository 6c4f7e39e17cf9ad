/-
  The law's walk, part F: a round's request is laid into its rows. Own work on this program.
-/
import Derived.Test.YbulkbhqsDoorLawE
namespace Go.Proofs.YbulkbhqsDoor
open Go.RowKit
set_option linter.unusedVariables false

theorem ReqNew.set {r ob q : Nat} {x : Bool} {w w' : World} (h : ReqNew r ob q x w w') (hr : r = w.heap.size) {i : Nat} (h2 : 2 ≤ i) (h9 : i ≤ 9) (v : Value) : ReqNew r ob q x w (w'.setCell ⟨r, i, none⟩ v) := by
  obtain ⟨c, hc, c0, c1, c10, c11, hsz⟩ := h.blk
  refine ⟨⟨c.setIfInBounds i v, heap_set_cells hc, ?_, ?_, ?_, ?_, by simpa using hsz⟩, fun b hb => (Below.heap_setCell _ _ _ _ (show b ≠ r by omega)).trans (h.far b hb), h.env.1, h.env.2.1, h.env.2.2.1, by simp [World.setCell]; exact h.env.2.2.2⟩
  · rw [Array.getElem?_setIfInBounds_ne (by omega)]; exact c0
  · rw [Array.getElem?_setIfInBounds_ne (by omega)]; exact c1
  · rw [Array.getElem?_setIfInBounds_ne (by omega)]; exact c10
  · rw [Array.getElem?_setIfInBounds_ne (by omega)]; exact c11

theorem ReqNew.start (w : World) (ob q : Nat) (x : Bool) : ReqNew w.heap.size ob q x w (w.alloc (.cells #[pt ob, pt q, .string ⟨#[]⟩, .int .i8 0, .int .u64 0, .int .i32 0, .int .i32 0, .int .i32 0, .int .u8 0, .int .u8 0, .bool true, .bool x] 72 (0, 0))).drew :=
  ⟨⟨_, heap_alloc_new _ _, rfl, rfl, rfl, rfl, rfl⟩, fun b hb => Below.heap_alloc _ _ _ hb, rfl, rfl, rfl, by simp⟩

/-- The state with the new request, its rows not yet longer. -/
def Gs.req (s : Gs) (o r : Nat) (b x : Bool) : Gs :=
  { s with A := upd s.A o (s.A o ++ [r]), own := upd s.own r b, ex := upd s.ex r x, K := if b = true ∧ x = true then s.K + 1 else s.K, K2 := if b = false ∧ x = true then s.K2 + 1 else s.K2 }

theorem ReqNew.mem {N : Nat} {en : Bool} {s : Gs} {W0 w w' : World} {o r : Nat} {b x : Bool} (h : ReqNew r (if b = true then N + 6 else N + 7) (s.q o) x w w') (M : Mem N en s W0 w) (ho : o < 6) (hth : s.th o = true) (hr : r = w.heap.size) :
    Mem N en (s.req o r b x) W0 (if x = true then w'.setCell ⟨if b = true then N + 6 else N + 7, 11, none⟩ (.int .i64 ((if b = true then s.K else s.K2 : Nat) + 1)) else w') := by
  obtain ⟨c, hc, c0, c1, c10, c11, hsz⟩ := h.blk
  have hbig := M.big
  have tw := (h.far (N + 6) (by omega)).trans M.tx
  have uw := (h.far (N + 7) (by omega)).trans M.ux
  cases x with
  | false =>
    have := M.newr (w' := w') ho b false hth hr hc c0 c1 c10 c11 (fun b' hb _ _ => h.far b' hb) tw uw h.env
    simpa [Gs.req] using this
  | true =>
    cases b with
    | true =>
      have := M.newr (w' := w'.setCell ⟨N + 6, 11, none⟩ (.int .i64 (s.K + 1))) (k := s.K + 1) (k2 := s.K2) ho true true hth hr (c := c) ((Below.heap_setCell _ _ _ _ (show r ≠ N + 6 by omega)).trans hc) c0 c1 c10 c11
        (fun b' hb h1 _ => (Below.heap_setCell _ _ _ _ h1).trans (h.far b' hb)) (by rw [heap_set_cells tw]; simp [txc]) ((Below.heap_setCell _ _ _ _ (show N + 7 ≠ N + 6 by omega)).trans uw) ⟨h.env.1, h.env.2.1, h.env.2.2.1, by simp [World.setCell]; exact h.env.2.2.2⟩
      simpa [Gs.req] using this
    | false =>
      have := M.newr (w' := w'.setCell ⟨N + 7, 11, none⟩ (.int .i64 (s.K2 + 1))) (k := s.K) (k2 := s.K2 + 1) ho false true hth hr (c := c) ((Below.heap_setCell _ _ _ _ (show r ≠ N + 7 by omega)).trans hc) c0 c1 c10 c11
        (fun b' hb _ h1 => (Below.heap_setCell _ _ _ _ h1).trans (h.far b' hb)) ((Below.heap_setCell _ _ _ _ (show N + 6 ≠ N + 7 by omega)).trans tw) (by rw [heap_set_cells uw]; simp [txc]) ⟨h.env.1, h.env.2.1, h.env.2.2.1, by simp [World.setCell]; exact h.env.2.2.2⟩
      simpa [Gs.req] using this

set_option maxRecDepth 100000 in
set_option maxHeartbeats 4000000 in
def partF : (S1 : Prop) ×' ((Tok → S1) → partE.1) := by
  refine ⟨?S1, fun hS1 => ?main⟩
  case main =>
  delta partE
  dsimp only
  set_option tactic.hygienic false in intros
  rename World => w0
  have HOB := (show Hid _ from hOB)
  clear hOB
  have n1 := World.new_ne w0 ⟨W.heap.size + 8, o, none⟩ q1
  have n2 := World.new_ne w0 ⟨p11, 3, none⟩ o3
  go_region_held3 (fun w' => w'.cell? ⟨W.heap.size + 8, o, none⟩ = some (.pointer (some ⟨s1.q o, 0, none⟩)) ∧ w'.cell? ⟨p11, 3, none⟩ = some (.bool xpj)) (go_keep) (fail)
  rename_i hh
  clear hh
  go_upto_if 115 with fail
  have RN := ReqNew.start w0 OB (s1.q o) xpj
  simp only [pt] at RN
  have z9 : (w0.alloc (.cells #[.pointer (some ⟨OB, 0, none⟩), .pointer (some ⟨s1.q o, 0, none⟩), .string ⟨#[]⟩, .int .i8 0, .int .u64 0, .int .i32 0, .int .i32 0, .int .i32 0, .int .u8 0, .int .u8 0, .bool true, .bool xpj] 72 (0, 0))).drew.heap[w0.heap.size]? = some (.cells #[.pointer (some ⟨OB, 0, none⟩), .pointer (some ⟨s1.q o, 0, none⟩), .string ⟨#[]⟩, .int .i8 0, .int .u64 0, .int .i32 0, .int .i32 0, .int .i32 0, .int .u8 0, .int .u8 0, .bool true, .bool xpj] 72 (0, 0)) := heap_alloc_new _ _
  generalize (w0.alloc (.cells #[.pointer (some ⟨OB, 0, none⟩), .pointer (some ⟨s1.q o, 0, none⟩), .string ⟨#[]⟩, .int .i8 0, .int .u64 0, .int .i32 0, .int .i32 0, .int .i32 0, .int .u8 0, .int .u8 0, .bool true, .bool xpj] 72 (0, 0))).drew = X0 at RN z9
  have hpl : p11 < w0.heap.size := cell_lt o3
  have x2 := (World.cell?_of_block (w := w0) (a := ⟨p11, 2, none⟩) (RN.far p11 hpl)).trans o2
  have x3 := (World.cell?_of_block (w := w0) (a := ⟨p11, 3, none⟩) (RN.far p11 hpl)).trans o3
  have HRN := (show Hid _ from RN)
  have y8 : X0.cell? ⟨w0.heap.size, 8, none⟩ = some (.int .u8 0) := by simp [World.cell?, z9]
  have y9 : X0.cell? ⟨w0.heap.size, 9, none⟩ = some (.int .u8 0) := by simp [World.cell?, z9]
  have f8 : ∀ i, X0.frozen? ⟨w0.heap.size, i, none⟩ = false := fun i => by simp [World.frozen?, z9]
  clear RN z9 n1 n2
  obtain ⟨r, hr⟩ : ∃ r, r = w0.heap.size := ⟨_, rfl⟩
  rw [← hr] at HRN y8 y9 f8 ⊢
  have hne : p11 ≠ r := by omega
  have HHR := (show Hid _ from hr)
  clear hr
  go_cut [] (fun wx => Hid (ReqNew r OB (s1.q o) xpj w0 wx))
  case first =>
    by_cases h3 : o < 3
    · have h3i : (o : Int) < 3 := by omega
      go_wp2_with fail
      go_meet
      exact (show ReqNew _ _ _ _ _ _ from HRN.out).set HHR.out (by omega) (by omega) _
    · have h3i : ¬ (o : Int) < 3 := by omega
      go_wp2_with fail
      · go_meet
        exact ((show ReqNew _ _ _ _ _ _ from HRN.out).set HHR.out (by omega) (by omega) _).set HHR.out (by omega) (by omega) _
      · go_meet
        exact ((show ReqNew _ _ _ _ _ _ from HRN.out).set HHR.out (by omega) (by omega) _).set HHR.out (by omega) (by omega) _
  case rest =>
    have RN : ReqNew _ _ _ _ _ _ := hcut.out
    clear HRN y8 y9 f8 x2 x3 X0
    obtain ⟨M, p, hth, hop⟩ := H1.out
    have hr : r = w0.heap.size := HHR.out
    have x2 := (World.cell?_of_block (w := w0) (a := ⟨p11, 3, none⟩) (RN.far p11 hpl)).trans o3
    -- the owner's count
    obtain ⟨KK, hKK⟩ : ∃ KK, KK = if owj = true then s1.K else s1.K2 := ⟨_, rfl⟩
    have hOB : OB = _ := HOB.out
    have hKb : KK ≤ 1024 := by
      have h1 := p.k2
      have h2 : s1.K ≤ 1024 := by
        rw [p.cnt]
        refine Nat.le_trans List.countP_le_length ?_
        have h12 := p.len 12 (by omega)
        have h13 := p.len 13 (by omega)
        simp
        omega
      rw [hKK]
      split <;> omega
    have tw := (RN.far (W.heap.size + 6) (by omega)).trans M.tx
    have uw := (RN.far (W.heap.size + 7) (by omega)).trans M.ux
    have k11 : wc.cell? ⟨OB, 11, none⟩ = some (.int .i64 KK) ∧ wc.frozen? ⟨OB, 11, none⟩ = false := by
      cases owj with
      | true => rw [hOB, hKK]; exact ⟨(tx_cells tw).2.2.2.2.2.2, by simp [World.frozen?, tw]⟩
      | false => rw [hOB, hKK]; exact ⟨(tx_cells uw).2.2.2.2.2.2, by simp [World.frozen?, uw]⟩
    obtain ⟨k11, kf⟩ := k11
    have M2 := (hOB ▸ RN : ReqNew r (if owj = true then W.heap.size + 6 else W.heap.size + 7) (s1.q o) xpj w0 wc).mem M ho6 hth hr
    rw [← hKK, ← hOB] at M2
    have hfr : ∀ o' r', o' < 6 → r' ∈ s1.A o' → r' ≠ r := fun o' r' h1 h2 => by
      obtain ⟨c, hc⟩ := (M.reqs o' r' h1 h2).blk
      have := (Array.getElem?_eq_some_iff.1 hc).1
      omega
    have HM2 := (show Hid _ from M2)
    have HPP := (show Hid _ from And.intro p (And.intro hth hfr))
    clear M M2 p hth hop tw uw hOB hKK hr RN hfr H1 HHR hNs o0 o1 o2 o3 q1 hcut
    go_upto_if 141 with fail
    go_cut [] (fun wx => Hid (Mem W.heap.size en (s1.req o r owj xpj) W wx))
    case first =>
      cases xpj with
      | true =>
        go_wp2_with fail
        go_meet
        exact HM2.out
      | false =>
        go_wp2_with fail
        go_meet
        exact HM2.out
    case rest =>
      clear HM2 x2 k11 kf
      go_upto_region 34 with fail
      rename_i K1 a1
      clear hpl hne hKb HI hlt ho
      revert len cap b off hl2 en W K4 u11 u12 u15 u16 u13 u14 u48 u49 u50 u51 u52 u53 u54 u55 u56 u57 u58 u59 u60 u61 u62 u63 u64 u65 u66 u67 u68 u69 u70 u71 u72 u73 u74 u75 u76 u77 u78 u79 u80 u81 u82 u83 u84 u85 u86 u87 u88 u89 u90 u91 u92 u93 u94 u95 u96 u97 u98 u99 u100 u101 u102 u103 u104 u105 u106 u107 u108 u109 u110 u111 u112 u113 u114 u115 u116 u117 u118 u119 u120 u121 u122 u123 u124 u125 u126 u127 u128 u129 u130 u131 u132 u133 u134 u135 u136 u137 u138 u139 u140 u141 u142 u143 u144 u145 u146 u147 u148 u149 u150 u151 u152 u153 u154 u155 u156 u157 u158 u159 u160 u161 u162 u163 u164 u165 u166 u167 u168 u169 u170 u171 u172 u173 u174 u175 u176 u177 u178 u179 u180 u181 u182 u183 u184 u185 u186 u187 u188 u189 u190 u191 u192 u193 u194 u195 u196 u197 u198 u199 u200 u201 u202 J K3 a4 j k a3 hj hjl owj xpj K2 a2 o ho6 p11 hoi hoi2 s1 OB HOB r HPP wc hcut K1 a1
      exact hS1 .mk
end Go.Proofs.YbulkbhqsDoor
