/-
  The law's walk, part P: one queue is held against what is wanted. Own work on this program.
-/
import Derived.Test.YbulkbhqsDoorLawN
namespace Go.Proofs.YbulkbhqsDoor
open Go.RowKit
set_option linter.unusedVariables false

set_option maxRecDepth 100000 in
set_option maxHeartbeats 4000000 in
theorem partP : partN.2.1 := by
  delta partN
  dsimp only
  set_option tactic.hygienic false in intros
  obtain ⟨rfl, rfl, hkk⟩ := hcut
  obtain ⟨F0, B, hw0⟩ := HZ.out
  have hkp : Kept [] wr wc := hkk.out
  have F := F0.kept hkp
  have hw : wc.ownsRow B 29 1 u25 (l i).length (ptrs (l i)) := owns_of_block hw0 (fun b hb => hkp.blk b (by obtain ⟨c, hc⟩ := row_blk hw0 hb; exact (Array.getElem?_eq_some_iff.1 hc).1) (by simp))
  obtain ⟨aw, capw, rfl⟩ := slice_form hw
  obtain ⟨q1, -, -, -⟩ := F.cells hi6
  rw [hth] at q1
  simp only [if_true, pt] at q1
  have hll : (l i).length ≤ 512 := by rw [F.ll i hi6]; exact Nat.le_trans (List.length_filter_le _ _) (F.len i hi6)
  have hin := F.inn i hi6 hth
  cases hii : inn i with
  | false =>
    have hl0 : l i = [] := by
      apply Classical.byContradiction
      intro hne
      rw [hin.2 hne] at hii
      cases hii
    have hlen : (l i).length = 0 := by rw [hl0]; rfl
    have HFF := (show Hid _ from F)
    rw [hlen]
    clear F0 F hw0 hw hkp hkk HZ hin q1 hlen hll
    go_wp2_with fail
    go_roundg k
    case measure => omega
    case rel => exact ⟨i + 1, by omega, by go_num, by rw [klb_succ, hii]; simp, HFF.out⟩
  | true =>
    have hne : l i ≠ [] := hin.1 hii
    have hpos : 0 < (l i).length := List.length_pos_iff.2 hne
    have hz : (((l i).length : Int) == 0) = false := beq_eq_false_iff_ne.2 (by omega)
    have hqb := F.qs.queue i hi6 hth
    obtain ⟨-, -, -, -, c4, -⟩ := cells6 hqb
    have c4 : wc.cell? ⟨s.q i, 4, none⟩ = some (row i) := c4
    have hrow := F.qs.rows i hi6 hth
    obtain ⟨gq, cq, eq⟩ := owns_succ hrow hpos
    rw [eq] at c4
    rw [eq] at hrow
    obtain ⟨gw, cw, ew⟩ := owns_succ hw hpos
    cases ew
    have hqn := q_neq_same (s.q i)
    simp only [pt] at hqn
    have HFF := (show Hid _ from And.intro F (And.intro hrow hw))
    simp only [if_true]
    clear F0 F hw0 hw hkp hkk HZ hin hrow eq hqb hne
    have k0 := (show Hid _ from Kept.refl [] wc)
    rename World => w1
    go_wp2_with fail
    go_loopg [420] (l i).length (fun kk c wx => ∃ (jj : Nat), jj + kk = (l i).length ∧ c = .int .i64 jj ∧ Hid (Kept [] w1 wx))
    case atStart => exact ⟨0, by omega, rfl, k0⟩
    case round =>
      obtain ⟨jj, hjk, rfl, HR⟩ := hrel
      have k2 : Kept [] w1 wr := HR.out
      cases gk with
      | zero =>
        obtain rfl : jj = (l i).length := by omega
        have HF2 : Hid (Fin W.heap.size en s l row inn ex W wr) := (show Fin _ _ _ _ _ _ _ _ _ from HFF.out.1).kept k2
        clear HFF k2 HR k0 q1 c4 hqn
        by_cases h3 : (i : Int) ≥ 3
        · go_wp2_with fail
          go_roundg k
          case measure => omega
          case rel => exact ⟨i + 1, by omega, by go_num, by rw [klb_succ, hii]; simp; omega, HF2⟩
        · go_wp2_with fail
          go_roundg k
          case measure => omega
          case rel => exact ⟨i + 1, by omega, by go_num, by rw [klb_succ, hii]; simp; omega, HF2⟩
      | succ kk =>
        have hjl : jj < (l i).length := by omega
        obtain ⟨F, hrow, hw⟩ := HFF.out
        have rowk : ∀ {b g' cap' : Nat}, w1.ownsRow b 29 1 (.slice (some ⟨g', 0, none⟩) (l i).length cap') (l i).length (ptrs (l i)) → wr.cell? ⟨g', jj, none⟩ = some (pt (l i)[jj]) := fun ho => by
          obtain ⟨c, hc⟩ := row_blk ho rfl
          exact (World.cell?_of_block (w := w1) (a := ⟨_, jj, none⟩) (k2.blk _ (Array.getElem?_eq_some_iff.1 hc).1 (by simp))).trans ((ho.cellAt jj (by omega)).trans (ptrs_at (l i) jj hjl))
        have x1 := rowk hrow
        have x2 := rowk hw
        have c4' := (World.cell?_of_block (w := w1) (a := ⟨s.q i, 4, none⟩) (k2.blk _ (cell_lt c4) (by simp))).trans c4
        have hrn := r_neq_same (l i)[jj]
        generalize (l i)[jj] = r at x1 x2 hrn
        simp only [pt] at x1 x2 hrn
        have HK2 := (show Hid _ from k2)
        clear F hrow hw rowk HFF k2 HR k0 q1 c4
        go_wp2_with fail
        go_quiet (fail)
        go_wp2
        go_roundg kk
        case measure => omega
        case rel => exact ⟨jj + 1, by omega, by go_num, (show Kept [] w1 wr from HK2.out).drewN _⟩
end Go.Proofs.YbulkbhqsDoor
