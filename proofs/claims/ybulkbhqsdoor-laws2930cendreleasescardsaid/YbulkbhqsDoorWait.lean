/-
  A queue on which nothing waits: 'waitingClasses', 'grantable', 'len', by contracts. Own work on this program.
-/
import Derived.Test.YbulkbhqsDoorRem3
namespace Go.Proofs.YbulkbhqsDoor
open Go.RowKit
set_option linter.unusedVariables false

/-- The queue Q is one list l, all of it granted. -/
structure Calm (Q base : Nat) (l : List Nat) (v : Value) (W : World) : Prop where
  lines : W.cell? ⟨Q, 5, none⟩ = some (.pointer none)
  reqs : W.cell? ⟨Q, 4, none⟩ = some v
  row : W.ownsRow base 29 1 v l.length (ptrs l)
  granted : ∀ x ∈ l, W.cell? ⟨x, 10, none⟩ = some (.bool true)
  len : l.length ≤ 1024

theorem slice_form {W : World} {base n : Nat} {v : Value} {xs : List Value} (h : W.ownsRow base 29 1 v n xs) : ∃ a cap, v = .slice a n cap := by
  rcases h.2 with ⟨rfl, rfl⟩ | ⟨g, cap, _, rfl, _⟩
  · exact ⟨none, 0, rfl⟩
  · exact ⟨_, cap, rfl⟩

set_option maxRecDepth 100000 in
set_option maxHeartbeats 1000000 in
theorem classes_none {Q base : Nat} {l : List Nat} {v : Value} {W : World} (p : Calm Q base l v W) :
    Calls Ybad.prog 32 #[.pointer (some ⟨Q, 0, none⟩)] W fun e W' => e = .returned (.int .u16 0) ∧ W' = W := by
  obtain ⟨a, cap, rfl⟩ := slice_form p.row
  have c5 := p.lines
  have c4 := p.reqs
  have hl := p.len
  have HP := (show Hid _ from p)
  clear p
  go_enter Ybad.func32, Ybad.ntmps32
  go_wp2_with fail
  go_loop [3, 21] (fun s c => s = .int .u16 0 ∧ ∃ j : Nat, j ≤ l.length ∧ c = .int .i64 j) (fun _ c => l.length - (intOf c).toNat)
  case atStart => exact ⟨rfl, 0, Nat.zero_le _, rfl⟩
  case round =>
    obtain ⟨rfl, j, hj, rfl⟩ := hrel
    by_cases e : j < l.length
    · have p : Calm _ _ _ _ _ := HP.out
      obtain ⟨g, cap', hg⟩ := owns_succ p.row (by omega)
      cases hg
      have c1 : W.cell? ⟨g, j, none⟩ = some (.pointer (some ⟨l[j], 0, none⟩)) := (p.row.cellAt j (by omega)).trans (ptrs_at l j e)
      have c2 := p.granted l[j] (List.getElem_mem e)
      clear p
      generalize l[j] = x at c1 c2
      go_wp2_with fail
      go_round
      case rel => exact ⟨rfl, j + 1, by omega, by go_num⟩
      case measure => simp [intOf]; omega
    · obtain rfl : j = l.length := by omega
      go_wp2_with fail
      go_ret
      exact ⟨rfl, rfl⟩

set_option maxRecDepth 100000 in
set_option maxHeartbeats 1000000 in
theorem grantable_none {Q base : Nat} {l : List Nat} {v : Value} {W : World} (p : Calm Q base l v W) :
    Calls Ybad.prog 21 #[.pointer (some ⟨Q, 0, none⟩)] W fun e W' => e = .returned (.pointer none) ∧ W' = W := by
  have HC := (show Hid _ from classes_none p)
  clear p
  go_enter Ybad.func21, Ybad.ntmps21
  go_wp2_with fail
  refine (show Calls _ _ _ _ _ from HC.out).mono ?_
  rintro e W1 ⟨rfl, rfl⟩
  go_wp2_with fail
  refine wp_loop_rounds 1 ?_
  rw [rounds_succ]
  go_wp2_with fail
  go_ret
  exact ⟨rfl, rfl⟩

set_option maxRecDepth 100000 in
set_option maxHeartbeats 1000000 in
theorem len_any {Q base : Nat} {l : List Nat} {v : Value} {W : World} (p : Calm Q base l v W) :
    Calls Ybad.prog 38 #[.pointer (some ⟨Q, 0, none⟩)] W fun e W' => e = .returned (.int .i64 l.length) ∧ W' = W := by
  obtain ⟨a, cap, rfl⟩ := slice_form p.row
  have c5 := p.lines
  have c4 := p.reqs
  clear p
  go_enter Ybad.func38, Ybad.ntmps38
  go_wp2_with fail
  go_ret
  exact ⟨rfl, rfl⟩
end Go.Proofs.YbulkbhqsDoor
