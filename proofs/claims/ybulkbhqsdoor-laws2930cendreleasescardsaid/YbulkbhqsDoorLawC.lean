/-
  The law's walk, part C: a round's queue. Own work on this program.
-/
import Derived.Test.YbulkbhqsDoorLawB
namespace Go.Proofs.YbulkbhqsDoor
open Go.RowKit
set_option linter.unusedVariables false

theorem Mem.cells {N : Nat} {en : Bool} {s : Gs} {W0 w : World} (h : Mem N en s W0 w) {o : Nat} (ho : o < 6) :
    w.cell? ⟨N + 8, o, none⟩ = some (if s.th o = true then pt (s.q o) else .pointer none) ∧ w.cell? ⟨N + 9, o, none⟩ = some (s.R (6 + o)) ∧ w.frozen? ⟨N + 8, o, none⟩ = false ∧ w.frozen? ⟨N + 9, o, none⟩ = false ∧ w.cell? ⟨N + 5, 2, none⟩ = some (.map (some (N + 1))) ∧ w.cell? ⟨N + 5, 4, none⟩ = some (.map (some (N + 3))) := by
  obtain ⟨c1, a1, a2, a3⟩ := h.arr
  obtain ⟨c2, b1, b2, b3⟩ := h.arra
  refine ⟨?_, ?_, ?_, ?_, ?_, ?_⟩
  · simp [World.cell?, a3, a2 o ho]
  · simp [World.cell?, b3, b2 o ho]
  · simp [World.frozen?, a3]
  · simp [World.frozen?, b3]
  · simp [World.cell?, h.man, manc]
  · simp [World.cell?, h.man, manc]

theorem nil_eql (b : Nat) (w : World) : (binOp .eql 38 (pt b) (.pointer none)).run Ybad.prog w = .ok (.bool false) w := by
  have h : ∀ d : Nat, (Op.equalIn (d + 1) 38 (pt b) (.pointer none)).run Ybad.prog w = .ok false w := fun d => by simp [Op.equalIn, run_underlying Ybad.underlying38]
  simp only [binOp]
  simp [Op.equal, Op.maxDepth, h 9999]
theorem nil_eql0 (w : World) : (binOp .eql 38 (.pointer none) (.pointer none)).run Ybad.prog w = .ok (.bool true) w := by
  have h : ∀ d : Nat, (Op.equalIn (d + 1) 38 (.pointer none) (.pointer none)).run Ybad.prog w = .ok true w := fun d => by simp [Op.equalIn, run_underlying Ybad.underlying38]
  simp only [binOp]
  simp [Op.equal, Op.maxDepth, h 9999]

set_option maxRecDepth 100000 in
set_option maxHeartbeats 4000000 in
def partC : (S1 : Prop) ×' (S2 : Prop) ×' ((Tok → S1) → (Tok → S2) → partB.1) := by
  refine ⟨?S1, ?S2, fun hS1 hS2 => ?main⟩
  case main =>
  delta partB
  dsimp only
  set_option tactic.hygienic false in intros
  obtain ⟨o, ho6, ho⟩ : ∃ o : Nat, o < 6 ∧ ((obj : Int) % 6 = (o : Int)) := ⟨obj % 6, Nat.mod_lt _ (by decide), by omega⟩
  rw [ho]
  obtain ⟨M, p⟩ := H.out
  have M1 := M.kept (Kept.alloc [] wr (.cells #[.bool owj, .int .u8 obj, .int .u8 mdj, .bool xpj] 42 (0, 0)))
  have hop : (wr.alloc (.cells #[.bool owj, .int .u8 obj, .int .u8 mdj, .bool xpj] 42 (0, 0))).heap[wr.heap.size]? = some (.cells #[.bool owj, .int .u8 obj, .int .u8 mdj, .bool xpj] 42 (0, 0)) := heap_alloc_new _ _
  generalize wr.alloc (.cells #[.bool owj, .int .u8 obj, .int .u8 mdj, .bool xpj] 42 (0, 0)) = wa at M1 hop
  generalize wr.heap.size = p11 at hop
  obtain ⟨q1, q2, q3, q4, q5, q6⟩ := M1.cells ho6
  have hoi : (0 : Int) ≤ (o : Int) := by omega
  have hoi2 : (o : Int) < 6 := by omega
  have HP := (show Hid _ from And.intro M1 (And.intro p hop))
  clear M M1 p hop q2 q4 H
  obtain ⟨ao, hao, heq⟩ : ∃ ao : Option Addr, (if s.th o = true then pt (s.q o) else .pointer none) = Value.pointer ao ∧ (binOp .eql 38 (.pointer ao) (.pointer none)).run Ybad.prog wa = .ok (.bool (!s.th o)) wa := by
    cases s.th o with
    | true => exact ⟨some ⟨s.q o, 0, none⟩, rfl, nil_eql (s.q o) wa⟩
    | false => exact ⟨none, rfl, nil_eql0 wa⟩
  rw [hao] at q1
  clear hao
  go_upto_if 58 with fail
  go_cut [13, 14] (fun _ _ wx => ∃ s1 : Gs, Hid (Mem W.heap.size en s1 W wx ∧ Pur s1 j o ∧ s1.th o = true ∧ wx.heap[p11]? = some (.cells #[.bool owj, .int .u8 obj, .int .u8 mdj, .bool xpj] 42 (0, 0))))
  case first =>
    cases hth : s.th o with
    | true =>
      go_wp2_with fail
      go_meet
      exact ⟨s, HP.out.1, HP.out.2.1.weak, hth, HP.out.2.2⟩
    | false =>
      rename_i J1 K1' a01 a02
      clear a1 a2 a3 a4 HI heq q1 ho hj hjl hlt d1 d2
      revert len cap b off en W K4 u11 u12 u13 u14 u15 u16 u48 u49 u50 u51 u52 u53 u54 u55 u56 u57 u58 u59 u60 u61 u62 u63 u64 u65 u66 u67 u68 u69 u70 u71 u72 u73 u74 u75 u76 u77 u78 u79 u80 u81 u82 u83 u84 u85 u86 u87 u88 u89 u90 u91 u92 u93 u94 u95 u96 u97 u98 u99 u100 u101 u102 u103 u104 u105 u106 u107 u108 u109 u110 u111 u112 u113 u114 u115 u116 u117 u118 u119 u120 u121 u122 u123 u124 u125 u126 u127 u128 u129 u130 u131 u132 u133 u134 u135 u136 u137 u138 u139 u140 u141 u142 u143 u144 u145 u146 u147 u148 u149 u150 u151 u152 u153 u154 u155 u156 u157 u158 u159 u160 u161 u162 u163 u164 u165 u166 u167 u168 u169 u170 u171 u172 u173 u174 u175 u176 u177 u178 u179 u180 u181 u182 u183 u184 u185 u186 u187 u188 u189 u190 u191 u192 u193 u194 u195 u196 u197 u198 u199 u200 u201 u202 J K3 j s obj mdj owj xpj K2 K1 o ho6 wa p11 q3 q5 q6 hoi hoi2 HP ao J1 K1' a01 a02 hth
      exact hS1 .mk
  case rest =>
    clear HP q1 heq q3 q5 q6 d1
    revert len cap b off hl2 en ow ob md xp W HI K4 u11 u12 u15 u16 u13 u14 u48 u49 u50 u51 u52 u53 u54 u55 u56 u57 u58 u59 u60 u61 u62 u63 u64 u65 u66 u67 u68 u69 u70 u71 u72 u73 u74 u75 u76 u77 u78 u79 u80 u81 u82 u83 u84 u85 u86 u87 u88 u89 u90 u91 u92 u93 u94 u95 u96 u97 u98 u99 u100 u101 u102 u103 u104 u105 u106 u107 u108 u109 u110 u111 u112 u113 u114 u115 u116 u117 u118 u119 u120 u121 u122 u123 u124 u125 u126 u127 u128 u129 u130 u131 u132 u133 u134 u135 u136 u137 u138 u139 u140 u141 u142 u143 u144 u145 u146 u147 u148 u149 u150 u151 u152 u153 u154 u155 u156 u157 u158 u159 u160 u161 u162 u163 u164 u165 u166 u167 u168 u169 u170 u171 u172 u173 u174 u175 u176 u177 u178 u179 u180 u181 u182 u183 u184 u185 u186 u187 u188 u189 u190 u191 u192 u193 u194 u195 u196 u197 u198 u199 u200 u201 u202 J K3 a4 j k a3 hj hjl hlt obj mdj d2 owj xpj K2 a2 K1 a1 o ho6 p11 hoi hoi2 wc hcut
    exact hS2 .mk
end Go.Proofs.YbulkbhqsDoor
