/-
  'noteExposed(false)' and 'queue.remove' where nothing waits, by contracts. Own work on this program.
-/
import Derived.Test.YbulkbhqsDoorSl
namespace Go.Proofs.YbulkbhqsDoor
open Go.RowKit

set_option maxRecDepth 100000 in
set_option maxHeartbeats 1000000 in
theorem note_off (r : Nat) (W : World) (h : W.cell? ⟨r, 11, none⟩ = some (.bool false)) :
    Calls Ybad.prog 14 #[.pointer (some ⟨r, 0, none⟩), .bool false] W fun e W' => e = .returned (.tuple #[]) ∧ W' = W := by
  go_enter Ybad.func14, Ybad.ntmps14
  go_wp2
  refine bodyPost_ret (results_none rfl _ _ _) rfl ?_
  exact ⟨rfl, rfl⟩

set_option maxRecDepth 100000 in
set_option maxHeartbeats 1000000 in
theorem note_on (r t : Nat) (k : Int) (W : World) (hk : 0 ≤ k) (hk2 : k ≤ 1024) (hrt : r ≠ t) (h : W.cell? ⟨r, 11, none⟩ = some (.bool true)) (h0 : W.cell? ⟨r, 0, none⟩ = some (.pointer (some ⟨t, 0, none⟩))) (ht : W.cell? ⟨t, 11, none⟩ = some (.int .i64 k)) (fr : W.frozen? ⟨r, 11, none⟩ = false) (ft : W.frozen? ⟨t, 11, none⟩ = false) :
    Calls Ybad.prog 14 #[.pointer (some ⟨r, 0, none⟩), .bool false] W fun e W' => e = .returned (.tuple #[]) ∧ W' = (W.setCell ⟨r, 11, none⟩ (.bool false)).setCell ⟨t, 11, none⟩ (.int .i64 (k - 1)) := by
  go_enter Ybad.func14, Ybad.ntmps14
  go_wp2
  go_end0
  exact ⟨rfl, rfl⟩

/-- What 'remove' asks of the queue Q, the request r in it (granted), its transaction t. -/
structure RemPre (Q r t g cap i base : Nat) (l : List Nat) (x : Bool) (k : Int) (W : World) : Prop where
  lines : W.cell? ⟨Q, 5, none⟩ = some (.pointer none)
  reqs : W.cell? ⟨Q, 4, none⟩ = some (.slice (some ⟨g, 0, none⟩) l.length cap)
  row : W.ownsRow base 29 1 (.slice (some ⟨g, 0, none⟩) l.length cap) l.length (ptrs l)
  hi : l[i]? = some r
  first : ∀ j, j < i → l[j]? ≠ some r
  blk : ∀ x ∈ l, ∃ c, W.heap[x]? = some (.cells c 72 (0, 0))
  bQ : ∃ c, W.heap[Q]? = some (.cells c 51 (0, 0))
  bt : ∃ c, W.heap[t]? = some (.cells c 37 (0, 0))
  granted : W.cell? ⟨r, 10, none⟩ = some (.bool true)
  exposed : W.cell? ⟨r, 11, none⟩ = some (.bool x)
  txn : W.cell? ⟨r, 0, none⟩ = some (.pointer (some ⟨t, 0, none⟩))
  cnt : W.cell? ⟨t, 11, none⟩ = some (.int .i64 k)
  k0 : 0 ≤ k
  k1 : k ≤ 1024
  len : l.length ≤ 1024
end Go.Proofs.YbulkbhqsDoor
