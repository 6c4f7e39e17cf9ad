/-
  The law's walk, part E: a round's request. Own work on this program.
-/
import Derived.Test.YbulkbhqsDoorLawD
namespace Go.Proofs.YbulkbhqsDoor
open Go.RowKit
set_option linter.unusedVariables false

/-- The new request as it lies, ahead of all else. -/
structure ReqNew (r ob q : Nat) (x : Bool) (w w' : World) : Prop where
  blk : ∃ c : Array Value, w'.heap[r]? = some (.cells c 72 (0, 0)) ∧ c[0]? = some (pt ob) ∧ c[1]? = some (pt q) ∧ c[10]? = some (.bool true) ∧ c[11]? = some (.bool x) ∧ c.size = 12
  far : ∀ b, b < w.heap.size → w'.heap[b]? = w.heap[b]?
  env : w'.os = w.os ∧ w'.tape = w.tape ∧ w'.output = w.output ∧ w.heap.size ≤ w'.heap.size

theorem op_cells {w : World} {p : Nat} {a b c d : Value} (h : w.heap[p]? = some (.cells #[a, b, c, d] 42 (0, 0))) : w.cell? ⟨p, 0, none⟩ = some a ∧ w.cell? ⟨p, 1, none⟩ = some b ∧ w.cell? ⟨p, 2, none⟩ = some c ∧ w.cell? ⟨p, 3, none⟩ = some d := by simp [World.cell?, h]

set_option maxRecDepth 100000 in
set_option maxHeartbeats 4000000 in
def partE : (S1 : Prop) ×' ((Tok → S1) → partC.2.1) := by
  refine ⟨?S1, fun hS1 => ?main⟩
  case main =>
  delta partC
  dsimp only
  set_option tactic.hygienic false in intros
  obtain ⟨s1, H1⟩ := hcut
  obtain ⟨M, p, hth, hop⟩ := H1.out
  obtain ⟨o0, o1, o2, o3⟩ := op_cells hop
  obtain ⟨q1, -, -, -, -, -⟩ := M.cells ho6
  rw [hth] at q1
  simp only [if_true, pt] at q1
  have hNs := M.big
  clear M p hth hop
  obtain ⟨OB, hOB⟩ : ∃ OB, OB = if owj = true then W.heap.size + 6 else W.heap.size + 7 := ⟨_, rfl⟩
  go_upto_if 104 with fail
  go_cut [15] (fun v wx => v = .pointer (some ⟨OB, 0, none⟩) ∧ wx = wc)
  case first =>
    cases owj with
    | true =>
      go_wp2_with fail
      go_meet
      exact ⟨by rw [hOB]; rfl, rfl⟩
    | false =>
      go_wp2_with fail
      go_meet
      exact ⟨by rw [hOB]; rfl, rfl⟩
  case rest =>
    obtain ⟨rfl, rfl⟩ := hcut
    go_upto_region 25 with fail
    rename_i Q1 K1 a1
    revert len cap b off hl2 en ow ob md xp W HI K4 u11 u12 u15 u16 u13 u14 u48 u49 u50 u51 u52 u53 u54 u55 u56 u57 u58 u59 u60 u61 u62 u63 u64 u65 u66 u67 u68 u69 u70 u71 u72 u73 u74 u75 u76 u77 u78 u79 u80 u81 u82 u83 u84 u85 u86 u87 u88 u89 u90 u91 u92 u93 u94 u95 u96 u97 u98 u99 u100 u101 u102 u103 u104 u105 u106 u107 u108 u109 u110 u111 u112 u113 u114 u115 u116 u117 u118 u119 u120 u121 u122 u123 u124 u125 u126 u127 u128 u129 u130 u131 u132 u133 u134 u135 u136 u137 u138 u139 u140 u141 u142 u143 u144 u145 u146 u147 u148 u149 u150 u151 u152 u153 u154 u155 u156 u157 u158 u159 u160 u161 u162 u163 u164 u165 u166 u167 u168 u169 u170 u171 u172 u173 u174 u175 u176 u177 u178 u179 u180 u181 u182 u183 u184 u185 u186 u187 u188 u189 u190 u191 u192 u193 u194 u195 u196 u197 u198 u199 u200 u201 u202 J K3 a4 j k a3 hj hjl hlt obj mdj d2 owj xpj K2 a2 o ho6 p11 hoi hoi2 s1 OB hOB Q1 wc H1 o0 o1 o2 o3 q1 hNs K1 a1
    exact hS1 .mk
end Go.Proofs.YbulkbhqsDoor
