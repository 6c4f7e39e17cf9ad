/-
  'queue.remove' where nothing waits, by a contract. Own work on this program.
-/
import Derived.Test.YbulkbhqsDoorRem
namespace Go.Proofs.YbulkbhqsDoor
open Go.RowKit
set_option linter.unusedVariables false

set_option maxRecDepth 100000 in
set_option maxHeartbeats 1000000 in
theorem remove_off {Q r t g cap i base : Nat} {l : List Nat} {k : Int} {W : World} (p : RemPre Q r t g cap i base l false k W) :
    Calls Ybad.prog 8 #[.pointer (some ⟨Q, 0, none⟩), .pointer (some ⟨r, 0, none⟩)] W fun e W' => e = .returned (.tuple #[]) ∧ ∃ W1, W1.ownsRow base 29 1 (.slice (some ⟨g, 0, none⟩) (l.length - 1) cap) (l.length - 1) (ptrs (l.eraseIdx i)) ∧ Kept [g] W W1 ∧ W' = W1.setCell ⟨Q, 4, none⟩ (.slice (some ⟨g, 0, none⟩) (l.length - 1) cap) := by
  have il : i < l.length := (List.getElem?_eq_some_iff.1 p.hi).1
  have c5 := p.lines
  have c4 := p.reqs
  have HI := (show Hid _ from index_any l base _ r i W p.len p.row p.hi p.first p.blk)
  have HN := (show Hid _ from note_off r W p.exposed)
  have HD := (show Hid _ from delete_any l base g cap i W p.len p.row il)
  obtain ⟨cQ, hcQ⟩ := p.bQ
  obtain ⟨cr, hcr⟩ := p.blk r (List.mem_of_getElem? p.hi)
  obtain ⟨cg, hcg⟩ := row_blk p.row rfl
  have hgQ : Q ≠ g := cells_ne hcQ hcg (by decide)
  have hgr : r ≠ g := cells_ne hcr hcg (by decide)
  have hlen := p.len
  have HG := (show Hid _ from And.intro p.granted (And.intro hcQ hcr))
  go_enter Ybad.func8, Ybad.ntmps8
  go_wp2_with fail
  refine (show Calls _ _ _ _ _ from HN.out).mono ?_
  rintro e W1 ⟨rfl, rfl⟩
  go_wp2_with fail
  refine (show Calls _ _ _ _ _ from HI.out).mono ?_
  rintro e W1 ⟨rfl, rfl⟩
  go_wp2_with fail
  refine (show Calls _ _ _ _ _ from HD.out).mono ?_
  rintro e W2 ⟨rfl, hrow, hk⟩
  have eQ : W2.heap[Q]? = W1.heap[Q]? := hk.blk Q (Array.getElem?_eq_some_iff.1 hcQ).1 (by simp [hgQ])
  have er : W2.heap[r]? = W1.heap[r]? := hk.blk r (Array.getElem?_eq_some_iff.1 hcr).1 (by simp [hgr])
  have c4' : W2.cell? ⟨Q, 4, none⟩ = some (.slice (some ⟨g, 0, none⟩) l.length cap) := (World.cell?_of_block (w := W1) (a := ⟨Q, 4, none⟩) eQ).trans c4
  have f4' : W2.frozen? ⟨Q, 4, none⟩ = false := by simp [World.frozen?, eQ, hcQ]
  have cg10 : W2.cell? ⟨r, 10, none⟩ = some (.bool true) := (World.cell?_of_block (w := W1) (a := ⟨r, 10, none⟩) er).trans HG.out.1
  have HR := (show Hid _ from And.intro hrow hk)
  have hQr : Q ≠ r := cells_ne hcQ hcr (by decide)
  clear hrow hk eQ er hcQ hcr hcg
  go_wp2_with fail
  go_end0
  exact ⟨rfl, W2, HR.out.1, HR.out.2, rfl⟩
end Go.Proofs.YbulkbhqsDoor
