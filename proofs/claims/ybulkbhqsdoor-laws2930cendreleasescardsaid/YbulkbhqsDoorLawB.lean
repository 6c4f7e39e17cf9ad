/-
  The law's walk, part B: ahead of the first loop; what is left to be shown is handed on (its round, its exit). Own work on this program.
-/
import Derived.Test.YbulkbhqsDoorLawA
namespace Go.Proofs.YbulkbhqsDoor
open Go.RowKit
set_option linter.unusedVariables false

/-- A token: so that what is handed on is no candidate for the walk's own search. -/
inductive Tok
  | mk

set_option maxRecDepth 100000 in
set_option maxHeartbeats 4000000 in
def partB : (R1 : Prop) ×' (R2 : Prop) ×' ((Tok → R1) → (Tok → R2) → ∀ (len cap b off : Nat) (ao : Option Addr) (hao : 0 < len → ao = some ⟨b, off, none⟩) (hl2 : len ≤ 512) (en : Bool) (ow : Nat → Bool) (ob md : Nat → Nat) (xp : Nat → Bool) (W : World) (hin : 0 < len → IsOps W b off len ow ob md xp),
    Calls Ybad.prog 3 #[.slice ao len cap, .bool en] W fun e W' => e = .returned (.bool true) ∧ Below W.heap.size W W') := by
  refine ⟨?R1, ?R2, fun hR1 hR2 => ?main⟩
  case main =>
  intro len cap b off ao hao hl2 en ow ob md xp W hin
  have HN := (show Hid _ from newManager_any W)
  have HI := (show Hid _ from hin)
  have HAO := (show Hid _ from hao)
  clear hin hao
  go_enter Ybad.func3, Ybad.ntmps3
  go_wp2_with fail
  refine (show Calls _ _ _ _ _ from HN.out).mono ?_
  rintro e W1 ⟨rfl, h1, h2, h3, h4, h5⟩
  have M0 := mem0 (en := en) h1 h2 h3 h4 h5
  simp only [pt]
  simp only [txc, pt] at M0
  have HM := (show Hid _ from M0)
  clear M0 h1 h2 h3 h5 HN
  go_wp2_with fail
  simp only [Nat.add_assoc, Nat.reduceAdd]
  go_loopg [47] len (fun k c wr => ∃ (j : Nat) (s : Gs), j + k = len ∧ c = .int .i64 j ∧ Hid (Mem W.heap.size en s W wr ∧ Pur s j 6))
  case atStart => exact ⟨0, gs0, by omega, rfl, HM.out, pur0⟩
  case round =>
    obtain ⟨j, s, hj, rfl, H⟩ := hrel
    cases gk with
    | zero =>
      obtain rfl : j = len := by omega
      clear HM HI HAO
      go_upto_region 41 with fail
      rename_i Q' K3 J K2 a3 h0 a2 K1 a1 K0 a0
      clear a3 a2 h0 h4 W1 hj a1 K1 J K2 K3
      revert cap ao en W Q' wr u11 u12 u13 u14 u15 u16 u48 u49 u50 u51 u52 u53 u54 u55 u56 u57 u58 u59 u60 u61 u62 u63 u64 u65 u66 u67 u68 u69 u70 u71 u72 u73 u74 u75 u76 u77 u78 u79 u80 u81 u82 u83 u84 u85 u86 u87 u88 u89 u90 u91 u92 u93 u94 u95 u96 u97 u98 u99 u100 u101 u102 u103 u104 u105 u106 u107 u108 u109 u110 u111 u112 u113 u114 u115 u116 u117 u118 u119 u120 u121 u122 u123 u124 u125 u126 u127 u128 u129 u130 u131 u132 u133 u134 u135 u136 u137 u138 u139 u140 u141 u142 u143 u144 u145 u146 u147 u148 u149 u150 u151 u152 u153 u154 u155 u156 u157 u158 u159 u160 u161 u162 u163 u164 u165 u166 u167 u168 u169 u170 u171 u172 u173 u174 u175 u176 u177 u178 u179 u180 u181 u182 u183 u184 u185 u186 u187 u188 u189 u190 u191 u192 u193 u194 u195 u196 u197 u198 u199 u200 u201 u202 j s H hl2 K0 a0
      exact hR2 .mk
    | succ k =>
      have hjl : j < len := by omega
      have hpos : 0 < len := by omega
      have hao : ao = some ⟨b, off, none⟩ := HAO.out hpos
      clear HAO
      subst hao
      obtain ⟨e1, e2, e3, e4⟩ := (show IsOps _ _ _ _ _ _ _ _ from HI.out hpos).el j hjl
      obtain ⟨d1, d2⟩ := (show IsOps _ _ _ _ _ _ _ _ from HI.out hpos).bd j hjl
      have hlt := (show IsOps _ _ _ _ _ _ _ _ from HI.out hpos).lt
      obtain ⟨M, p⟩ := H.out
      have fr := M.frame.blk b hlt (by simp)
      have g1 := (World.cell?_of_block (w := W) (a := ⟨b, off + j * 4, none⟩) fr).trans e1
      have g2 := (World.cell?_of_block (w := W) (a := ⟨b, off + j * 4 + 1, none⟩) fr).trans e2
      have g3 := (World.cell?_of_block (w := W) (a := ⟨b, off + j * 4 + 2, none⟩) fr).trans e3
      have g4 := (World.cell?_of_block (w := W) (a := ⟨b, off + j * 4 + 3, none⟩) fr).trans e4
      clear e1 e2 e3 e4 M p fr
      generalize ob j = obj at g2 d1
      generalize md j = mdj at g3 d2
      generalize ow j = owj at g1
      generalize xp j = xpj at g4
      go_upto_region 12 with fail
      rename_i Q' h0 K4 a5 J K3 a4 a3 K2 a2 K1 a1 K0 a0
      clear a5 g1 g2 g3 g4 HM h0 h4 W1 hpos
      revert len cap b off hl2 en ow ob md xp W HI Q' K4 wr u11 u12 u13 u14 u15 u16 u48 u49 u50 u51 u52 u53 u54 u55 u56 u57 u58 u59 u60 u61 u62 u63 u64 u65 u66 u67 u68 u69 u70 u71 u72 u73 u74 u75 u76 u77 u78 u79 u80 u81 u82 u83 u84 u85 u86 u87 u88 u89 u90 u91 u92 u93 u94 u95 u96 u97 u98 u99 u100 u101 u102 u103 u104 u105 u106 u107 u108 u109 u110 u111 u112 u113 u114 u115 u116 u117 u118 u119 u120 u121 u122 u123 u124 u125 u126 u127 u128 u129 u130 u131 u132 u133 u134 u135 u136 u137 u138 u139 u140 u141 u142 u143 u144 u145 u146 u147 u148 u149 u150 u151 u152 u153 u154 u155 u156 u157 u158 u159 u160 u161 u162 u163 u164 u165 u166 u167 u168 u169 u170 u171 u172 u173 u174 u175 u176 u177 u178 u179 u180 u181 u182 u183 u184 u185 u186 u187 u188 u189 u190 u191 u192 u193 u194 u195 u196 u197 u198 u199 u200 u201 u202 J K3 a4 j s H k a3 hj hjl hlt obj d1 mdj d2 owj xpj K2 a2 K1 a1 K0 a0
      exact hR1 .mk
end Go.Proofs.YbulkbhqsDoor
