/-
  'newQueues', 'NewManager', 'zzs2930cobj', by contracts. Own work on this program.
-/
import Derived.Test.YbulkbhqsDoorEndWalk
namespace Go.Proofs.YbulkbhqsDoor
open Go.RowKit
set_option linter.unusedVariables false

theorem Ybad.size55 : (Ybad.prog.info? 55).map (·.size) = some 3 := by kernel_rfl
theorem Ybad.size47 : (Ybad.prog.info? 47).map (·.size) = some 4 := by kernel_rfl

theorem new4 (w : World) (A B C D : Obj) : ((((w.alloc A).alloc B).alloc C).alloc D).heap[w.heap.size]? = some A ∧ ((((w.alloc A).alloc B).alloc C).alloc D).heap[w.heap.size + 1]? = some B ∧ ((((w.alloc A).alloc B).alloc C).alloc D).heap[w.heap.size + 2]? = some C ∧ ((((w.alloc A).alloc B).alloc C).alloc D).heap[w.heap.size + 3]? = some D ∧ ((((w.alloc A).alloc B).alloc C).alloc D).heap.size = w.heap.size + 4 := by
  have s1 : (w.alloc A).heap.size = w.heap.size + 1 := by simp
  have s2 : ((w.alloc A).alloc B).heap.size = w.heap.size + 2 := by simp
  have s3 : (((w.alloc A).alloc B).alloc C).heap.size = w.heap.size + 3 := by simp
  have f1 := heap_alloc_new w A
  have f2 := heap_alloc_new (w.alloc A) B
  have f3 := heap_alloc_new ((w.alloc A).alloc B) C
  have f4 := heap_alloc_new (((w.alloc A).alloc B).alloc C) D
  rw [s1] at f2
  rw [s2] at f3
  rw [s3] at f4
  refine ⟨?_, ?_, ?_, f4, by simp⟩
  · exact (Below.heap_alloc _ _ _ (by omega)).trans ((Below.heap_alloc _ _ _ (by omega)).trans ((Below.heap_alloc _ _ _ (by omega)).trans f1))
  · exact (Below.heap_alloc _ _ _ (by omega)).trans ((Below.heap_alloc _ _ _ (by omega)).trans f2)
  · exact (Below.heap_alloc _ _ _ (by omega)).trans f3

set_option maxRecDepth 100000 in
set_option maxHeartbeats 1000000 in
theorem newQueues_any (W : World) :
    Calls Ybad.prog 7 #[] W fun e W' => e = .returned (.agg #[.map (some (W.heap.size + 1)), .map (some (W.heap.size + 1 + 1)), .map (some (W.heap.size + 1 + 1 + 1))]) ∧ W'.heap[W.heap.size + 1]? = some (.map #[] 0) ∧ W'.heap[W.heap.size + 2]? = some (.map #[] 0) ∧ W'.heap[W.heap.size + 3]? = some (.map #[] 0) ∧ W'.heap.size = W.heap.size + 4 ∧ Kept [] W W' := by
  have hmm := @run_makeMap Ybad.prog
  go_enter Ybad.func7, Ybad.ntmps7
  go_wp2
  refine bodyPost_ret (results_cell_row (P := Ybad.prog) rfl _ _ W.heap.size 55 _ (0, 0) _ rfl (new4 W _ _ _ _).1 Ybad.underlying55 rfl (by exact Ybad.size55)) rfl ?_
  obtain ⟨_, h1, h2, h3, h4⟩ := new4 W (.cells #[.map (some (W.heap.size + 1)), .map (some (W.heap.size + 1 + 1)), .map (some (W.heap.size + 1 + 1 + 1))] 55 (0, 0)) (.map #[] 0) (.map #[] 0) (.map #[] 0)
  exact ⟨rfl, h1, h2, h3, h4, (((Kept.alloc _ _ _).trans (Kept.alloc _ _ _)).trans (Kept.alloc _ _ _)).trans (Kept.alloc _ _ _)⟩

/-- The manager's cells. -/
def manc (a b c d : Nat) : Array Value :=
  #[.int .i32 0, .int .u32 0, .map (some a), .map (some b), .map (some c), .map (some d), .int .u64 0, .int .u64 0, .int .u64 0, .pointer none, .int .u64 0, .int .u64 0, .int .i64 8, .bool false]

set_option maxRecDepth 100000 in
set_option maxHeartbeats 1000000 in
theorem newManager_any (W : World) :
    Calls Ybad.prog 4 #[] W fun e W' => e = .returned (pt (W.heap.size + 5)) ∧ W'.heap[W.heap.size + 5]? = some (.cells (manc (W.heap.size + 1) (W.heap.size + 2) (W.heap.size + 3) (W.heap.size + 4)) 68 (0, 0)) ∧ W'.heap[W.heap.size + 1]? = some (.map #[] 0) ∧ W'.heap[W.heap.size + 3]? = some (.map #[] 0) ∧ W'.heap.size = W.heap.size + 6 ∧ Kept [] W W' := by
  have HN := (show Hid _ from newQueues_any W)
  have hmm := @run_makeMap Ybad.prog
  go_enter Ybad.func4, Ybad.ntmps4
  go_wp2_with fail
  refine (show Calls _ _ _ _ _ from HN.out).mono ?_
  rintro e W1 ⟨rfl, h1, h2, h3, hsz, k1⟩
  go_wp2_with fail
  go_ret
  have hs2 : (W1.alloc (.map #[] 0)).heap.size = W.heap.size + 5 := by simp [hsz]
  refine ⟨rfl, ?_, ?_, ?_, ?_, (k1.trans (Kept.alloc _ _ _)).trans (Kept.alloc _ _ _)⟩
  · rw [← hs2]
    exact heap_alloc_new _ _
  · exact (Below.heap_alloc _ _ _ (by omega)).trans ((Below.heap_alloc _ _ _ (by omega)).trans h1)
  · exact (Below.heap_alloc _ _ _ (by omega)).trans ((Below.heap_alloc _ _ _ (by omega)).trans h3)
  · simp [hsz]

theorem ext0 : (⟨#[97, 98, 99]⟩ : ByteArray).extract 0 1 = nmb 0 := by decide
theorem ext1 : (⟨#[97, 98, 99]⟩ : ByteArray).extract 1 2 = nmb 1 := by decide
theorem ext2 : (⟨#[97, 98, 99]⟩ : ByteArray).extract 2 3 = nmb 2 := by decide

set_option maxRecDepth 100000 in
set_option maxHeartbeats 1000000 in
theorem obj_any (o : Nat) (ho : o < 6) (W : World) :
    Calls Ybad.prog 5 #[.int .i64 o] W fun e W' => e = .returned (.agg #[.string (idN o), .string (idK o), .int .i8 (idP o), .bool (idT o)]) ∧ Kept [] W W' := by
  match o, ho with
  | 0, _ | 1, _ | 2, _ | 3, _ | 4, _ | 5, _ =>
    go_enter Ybad.func5, Ybad.ntmps5
    go_wp2
    refine bodyPost_ret (results_cell_row (P := Ybad.prog) rfl _ _ W.heap.size 47 _ (0, 0) _ rfl (heap_alloc_new _ _) Ybad.underlying47 rfl (by exact Ybad.size47)) rfl ?_
    refine ⟨?_, Kept.alloc _ _ _⟩
    simp [ext0, ext1, ext2, idN, idK, idP, idT]
end Go.Proofs.YbulkbhqsDoor
