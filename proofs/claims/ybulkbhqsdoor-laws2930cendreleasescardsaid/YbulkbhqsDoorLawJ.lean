/-
  The law's walk, part J: the transaction's own fields behind 'end'. Own work on this program.
-/
import Derived.Test.YbulkbhqsDoorLawI
namespace Go.Proofs.YbulkbhqsDoor
open Go.RowKit
set_option linter.unusedVariables false

theorem sl_neq27 (w : World) : (binOp .neq 27 (.slice none 0 0) (.slice none 0 0)).run Ybad.prog w = .ok (.bool false) w := by
  have h : ∀ d : Nat, (Op.equalIn (d + 1) 27 (.slice none 0 0) (.slice none 0 0)).run Ybad.prog w = .ok true w := fun d => by simp [Op.equalIn, run_underlying Ybad.underlying27]
  simp only [binOp]
  simp [Op.equal, Op.maxDepth, h 9999]
theorem sl_neq28 (w : World) : (binOp .neq 28 (.slice none 0 0) (.slice none 0 0)).run Ybad.prog w = .ok (.bool false) w := by
  have h : ∀ d : Nat, (Op.equalIn (d + 1) 28 (.slice none 0 0) (.slice none 0 0)).run Ybad.prog w = .ok true w := fun d => by simp [Op.equalIn, run_underlying Ybad.underlying28]
  simp only [binOp]
  simp [Op.equal, Op.maxDepth, h 9999]

set_option maxRecDepth 100000 in
set_option maxHeartbeats 4000000 in
theorem partJ : partI.1 := by
  delta partI
  dsimp only
  set_option tactic.hygienic false in intros
  have n1 := sl_neq27
  have n2 := sl_neq28
  cases en with
  | true =>
    simp only [if_true] at t2' t5' t11'
    go_wp2_with fail
    go_meet
    rfl
  | false =>
    simp only [Bool.false_eq_true, if_false] at t2' t5' t11'
    go_wp2_with fail
    go_meet
    rfl
end Go.Proofs.YbulkbhqsDoor
