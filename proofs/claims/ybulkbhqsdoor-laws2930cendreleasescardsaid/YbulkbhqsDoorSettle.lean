/-
  'settle' on a queue on which nothing waits, by a contract. Own work on this program.
-/
import Derived.Test.YbulkbhqsDoorForget
namespace Go.Proofs.YbulkbhqsDoor
open Go.RowKit
set_option linter.unusedVariables false

set_option maxRecDepth 100000 in
set_option maxHeartbeats 1000000 in
theorem tidy_any {m Q base : Nat} {l : List Nat} {v : Value} {W : World} {R : World → Prop} (p : Calm Q base l v W) (hF : l = [] → Calls Ybad.prog 39 #[.pointer (some ⟨m, 2, none⟩), .pointer (some ⟨Q, 0, none⟩)] W fun e W' => e = .returned (.tuple #[]) ∧ R W') (hN : l ≠ [] → R W) :
    Calls Ybad.prog 23 #[.pointer (some ⟨m, 0, none⟩), .pointer (some ⟨Q, 0, none⟩)] W fun e W' => e = .returned (.tuple #[]) ∧ R W' := by
  have HC := (show Hid _ from len_any p)
  have HF := (show Hid _ from And.intro hF hN)
  clear p hF hN
  go_enter Ybad.func23, Ybad.ntmps23
  go_wp2_with fail
  refine (show Calls _ _ _ _ _ from HC.out).mono ?_
  rintro e W1 ⟨rfl, rfl⟩
  by_cases h0 : ((l.length : Int) == 0) = true
  · have hl : l = [] := by simpa using h0
    have HG := (show Hid _ from HF.out.1 hl)
    clear hl
    go_wp2_with fail
    refine (show Calls _ _ _ _ _ from HG.out).mono ?_
    rintro e W2 ⟨rfl, hR⟩
    go_wp2_with fail
    go_end0
    exact ⟨rfl, hR⟩
  · have h0 : ((l.length : Int) == 0) = false := by simpa using h0
    go_wp2_with fail
    go_end0
    exact ⟨rfl, HF.out.2 (fun h => by simp [h] at h0)⟩

set_option maxRecDepth 100000 in
set_option maxHeartbeats 1000000 in
theorem settle_any {m Q base : Nat} {l : List Nat} {v : Value} {W : World} {R : World → Prop} (p : Calm Q base l v W) (hF : l = [] → Calls Ybad.prog 39 #[.pointer (some ⟨m, 2, none⟩), .pointer (some ⟨Q, 0, none⟩)] W fun e W' => e = .returned (.tuple #[]) ∧ R W') (hN : l ≠ [] → R W) :
    Calls Ybad.prog 12 #[.pointer (some ⟨m, 0, none⟩), .pointer (some ⟨Q, 0, none⟩)] W fun e W' => e = .returned (.tuple #[]) ∧ R W' := by
  have HC := (show Hid _ from grantable_none p)
  have HT := (show Hid _ from tidy_any p hF hN)
  clear p hF hN
  go_enter Ybad.func12, Ybad.ntmps12
  go_wp2_with fail
  refine (show Calls _ _ _ _ _ from HC.out).mono ?_
  rintro e W1 ⟨rfl, rfl⟩
  go_wp2_with fail
  refine wp_loop_rounds 1 ?_
  rw [rounds_succ]
  go_wp2_with fail
  refine (show Calls _ _ _ _ _ from HT.out).mono ?_
  rintro e W2 ⟨rfl, hR⟩
  go_wp2_with fail
  go_end0
  exact ⟨rfl, hR⟩
end Go.Proofs.YbulkbhqsDoor
