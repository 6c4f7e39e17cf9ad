/-
  The law's walk, part G: a round's request is laid into its queue's row. Own work on this program.
-/
import Derived.Test.YbulkbhqsDoorLawF
namespace Go.Proofs.YbulkbhqsDoor
open Go.RowKit
set_option linter.unusedVariables false

/-- append, its run known, as one step of a region that draws. -/
theorem step_append_run {P : Program} {ops : Array Oper} {o : Oper} {a : Act} {w : World} {K : Act → World → Prop} {Q : Exit → Act → World → Prop} {E : Prop} (hgd : o.guard = none) (s x : Operand) (t tn : TypeId)
    (ho : o.op = .call { callee := .builtin .append, args := #[s, x], argTypes := #[t, tn] }) (vs vx : Value) (hs : a.eval s = vs) (hx : a.eval x = vx)
    (v' : Value) (w' : World) (hr : (Builtin.append_ #[t, tn] o.type #[vs, vx]).run P w = .ok v' w') (h : K (a.put o.dst v') w') :
    if Region.wanted o (yielded ops a.tmps) = true then Oper.wp P o a w K Q else E := by
  have hw : Region.wanted o (yielded ops a.tmps) = true := by simp [Region.wanted, hgd]
  rw [if_pos hw]
  exact Lib.wp_append_run w s x t tn ho vs vx hs hx v' w' hr h

set_option maxRecDepth 100000 in
set_option maxHeartbeats 4000000 in
def partG : (S1 : Prop) ×' ((Tok → S1) → partF.1) := by
  refine ⟨?S1, fun hS1 => ?main⟩
  case main =>
  delta partF
  dsimp only
  set_option tactic.hygienic false in intros
  have M : Mem _ _ _ _ _ := hcut.out
  obtain ⟨p, hth, hfr⟩ := HPP.out
  obtain ⟨q1, -, -, -, -, -⟩ := M.cells ho6
  have hth2 : (s1.req o r owj xpj).th o = true := hth
  rw [if_pos hth2] at q1
  have hqb := M.queue o ho6 hth2
  obtain ⟨-, -, -, -, q4, -⟩ := cells6 hqb
  have fq : wc.frozen? ⟨s1.q o, 4, none⟩ = false := by
    have : wc.heap[s1.q o]? = _ := hqb
    simp [World.frozen?, this]
  have hlen := p.len o (by omega)
  have Md := M.kept (w' := wc.drew) ((Kept.refl [] wc).drew)
  obtain ⟨v1, w1, hap, app⟩ := Md.append (j := o) (by omega) (show (s1.C o).length ≤ 1024 by omega) r
  obtain ⟨a2', cap2', rfl⟩ := slice_form app.own
  have Mq := Md.appq ho6 hth2 app
  have hq1 : w1.heap[s1.q o]? = wc.heap[s1.q o]? := app.far _ (Array.getElem?_eq_some_iff.1 hqb).1 (fun e => by obtain ⟨c, hc⟩ := row_blk (Md.rows.own o (by omega)) e; exact cells_ne hqb hc (by decide) rfl)
  have g4 : w1.cell? ⟨s1.q o, 4, none⟩ = some (s1.R o) := (World.cell?_of_block (w := wc) (a := ⟨s1.q o, 4, none⟩) hq1).trans q4
  have f4 : w1.frozen? ⟨s1.q o, 4, none⟩ = false := by
    have : w1.heap[s1.q o]? = _ := hq1.trans hqb
    simp [World.frozen?, this]
  obtain ⟨ca, hca1, hca2, hca3⟩ := M.arr
  have hb1 : w1.heap[W.heap.size + 8]? = wc.heap[W.heap.size + 8]? := app.far _ (Array.getElem?_eq_some_iff.1 hca3).1 (fun e => by obtain ⟨c, hc⟩ := row_blk (Md.rows.own o (by omega)) e; exact cells_ne hca3 hc (by decide) rfl)
  have g1 := (World.cell?_of_block (w := wc) (a := ⟨W.heap.size + 8, o, none⟩) hb1).trans q1
  have HMQ := (show Hid _ from Mq)
  have e1 : (s1.req o r owj xpj).R o = s1.R o := rfl
  have e2 : (s1.req o r owj xpj).q o = s1.q o := rfl
  rw [e2] at q1 g1
  have q4 : wc.cell? ⟨s1.q o, 4, none⟩ = some (s1.R o) := q4
  simp only [pt] at q1 g1
  obtain ⟨a1', cap1', hsl⟩ := slice_form (M.rows.own o (by omega))
  have hsl : s1.R o = .slice a1' (s1.C o).length cap1' := hsl
  rw [hsl] at q4 g4
  have hap2 : (Builtin.append_ #[27, 27] 27 #[.slice a1' (s1.C o).length cap1', .slice (some ⟨wc.heap.size, 0, none⟩) 1 1]).run Ybad.prog ((wc.alloc (.cells #[.pointer (some ⟨r, 0, none⟩)] 29 (0, 0))).drew) = .ok (.slice a2' ((s1.C o).length + 1) cap2') w1 := by rw [← hsl]; exact hap
  have HAP := (show Hid _ from hap2)
  clear hcut M Md Mq p hth hfr hth2 hqb app hq1 hb1 hca1 hca2 hca3 hap hap2 e1 e2 hsl
  have n1 := World.new_ne wc ⟨W.heap.size + 8, o, none⟩ q1
  have n4 := World.new_ne wc ⟨s1.q o, 4, none⟩ q4
  have n5 : s1.q o ≠ wc.heap.size := Ne.symm n4
  have n6 : W.heap.size + 8 ≠ wc.heap.size := Ne.symm n1
  clear n1 n4
  have hc4 := (World.cell?_of_block (w := wc) (a := ⟨s1.q o, 4, none⟩) (Below.heap_alloc wc (.cells #[.pointer (some ⟨r, 0, none⟩)] 29 (0, 0)) _ (cell_lt q4))).trans q4
  have hc8 := (World.cell?_of_block (w := wc) (a := ⟨W.heap.size + 8, o, none⟩) (Below.heap_alloc wc (.cells #[.pointer (some ⟨r, 0, none⟩)] 29 (0, 0)) _ (cell_lt q1))).trans q1
  go_cut [] (fun wx => ∃ v1, Hid (Mem W.heap.size en { s1.req o r owj xpj with R := upd s1.R o v1, C := upd s1.C o (s1.C o ++ [r]) } W wx))
  case first =>
    go_region_law (refine step_append_run rfl (.tmp 157) (.tmp 159) 27 27 rfl (.slice a1' (s1.C o).length cap1') (.slice (some ⟨wc.heap.size, 0, none⟩) 1 1) (by simp [Act.eval]) (by simp [Act.eval]) (.slice a2' ((s1.C o).length + 1) cap2') w1 HAP.out ?_)
    all_goals go_wp2
    all_goals go_meet
    all_goals exact ⟨_, HMQ.out⟩
  case rest =>
    clear HMQ HAP hc4 hc8 q1 q4 fq g1 g4 f4 n5 n6
    clear q4 hsl hlen a1' cap1' ca w1 a2' cap2'
    revert len cap b off hl2 en W K4 u11 u12 u15 u16 u13 u14 u48 u49 u50 u51 u52 u53 u54 u55 u56 u57 u58 u59 u60 u61 u62 u63 u64 u65 u66 u67 u68 u69 u70 u71 u72 u73 u74 u75 u76 u77 u78 u79 u80 u81 u82 u83 u84 u85 u86 u87 u88 u89 u90 u91 u92 u93 u94 u95 u96 u97 u98 u99 u100 u101 u102 u103 u104 u105 u106 u107 u108 u109 u110 u111 u112 u113 u114 u115 u116 u117 u118 u119 u120 u121 u122 u123 u124 u125 u126 u127 u128 u129 u130 u131 u132 u133 u134 u135 u136 u137 u138 u139 u140 u141 u142 u143 u144 u145 u146 u147 u148 u149 u150 u151 u152 u153 u154 u155 u156 u157 u158 u159 u160 u161 u162 u163 u164 u165 u166 u167 u168 u169 u170 u171 u172 u173 u174 u175 u176 u177 u178 u179 u180 u181 u182 u183 u184 u185 u186 u187 u188 u189 u190 u191 u192 u193 u194 u195 u196 u197 u198 u199 u200 u201 u202 J K3 a4 j k a3 hj hjl owj xpj K2 a2 o ho6 p11 hoi hoi2 s1 OB HOB r HPP K1 a1 wc hcut
    exact hS1 .mk
end Go.Proofs.YbulkbhqsDoor
