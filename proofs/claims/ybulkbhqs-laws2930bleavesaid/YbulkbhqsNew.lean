/-
  'NewManager' by a contract. Own work on this program.
-/
import Derived.Test.YbulkbhqsTree
import Derived.Carry
import Derived.RangeFuncRecord
namespace Go.Proofs.Ybulkbhqs
open Go.RowKit

set_option maxRecDepth 100000 in
set_option maxHeartbeats 1000000 in
theorem queues_any (w : World) : Calls Yba.prog 15 #[] w fun e w' => e = .returned (.agg #[.map (some (w.heap.size + 1)), .map (some (w.heap.size + 1 + 1)), .map (some (w.heap.size + 1 + 1 + 1))]) ∧
    w' = (((w.alloc (.cells #[.map (some (w.heap.size + 1)), .map (some (w.heap.size + 1 + 1)), .map (some (w.heap.size + 1 + 1 + 1))] 80)).alloc (.map #[] 0)).alloc (.map #[] 0)).alloc (.map #[] 0) := by
  have hmm := @run_makeMap Yba.prog
  go_enter Yba.func15, Yba.ntmps15
  go_wp2
  exact bodyPost_ret (v := .agg #[.map (some (w.heap.size + 1)), .map (some (w.heap.size + 1 + 1)), .map (some (w.heap.size + 1 + 1 + 1))]) (by simp [results, Yba.results15, go_sem]) rfl ⟨rfl, rfl⟩

set_option maxRecDepth 100000 in
set_option maxHeartbeats 1000000 in
theorem new_any (w : World) : Calls Yba.prog 9 #[] w fun e w' => e = .returned (.pointer (some ⟨w.heap.size + 5, 0, none⟩)) ∧ w'.heap[w.heap.size + 4]? = some (.map #[] 0) ∧ w'.cell? ⟨w.heap.size + 5, 5, none⟩ = some (.map (some (w.heap.size + 4))) ∧
    w'.heap.size = w.heap.size + 6 ∧ Below w.heap.size w w' ∧ ∃ c, w'.heap[w.heap.size + 5]? = some (.cells c 86 (0, 0)) := by
  have hmm := @run_makeMap Yba.prog
  go_enter Yba.func9, Yba.ntmps9
  go_wp2_with fail
  refine (queues_any w).mono ?_
  rintro e w' ⟨rfl, rfl⟩
  go_wp2_with fail
  go_ret
  have hA := World.alloc_heap_new ((((w.alloc (.cells #[.map (some (w.heap.size + 1)), .map (some (w.heap.size + 1 + 1)), .map (some (w.heap.size + 1 + 1 + 1))] 80)).alloc (.map #[] 0)).alloc (.map #[] 0)).alloc (.map #[] 0)) (.map #[] 0)
  simp only [World.size_alloc] at hA
  refine ⟨rfl, (Below.heap_alloc _ _ _ (by simp)).trans hA, (World.cell?_alloc_at _ _ _ _ (by simp)).trans rfl, by simp, ?_, ?_⟩
  · exact ((((((Below.refl _ w).alloc (Nat.le_refl _) _).alloc (by simp) _).alloc (by simp; omega) _).alloc (by simp; omega) _).alloc (by simp; omega) _).alloc (by simp; omega) _
  · have hB := World.alloc_heap_new (((((w.alloc (.cells #[.map (some (w.heap.size + 1)), .map (some (w.heap.size + 1 + 1)), .map (some (w.heap.size + 1 + 1 + 1))] 80)).alloc (.map #[] 0)).alloc (.map #[] 0)).alloc (.map #[] 0)).alloc (.map #[] 0))
    simp only [World.size_alloc] at hB
    exact ⟨_, hB _⟩
end Go.Proofs.Ybulkbhqs
