/-
  The law's walk: the front. Own work on this program.
-/
import Derived.Test.YbulkbhqsDoorPur
import Derived.Deep.LoopGhost
import Derived.Deep.RegionHeld3
import Derived.Lib.AppendZeros
namespace Go.Proofs.YbulkbhqsDoor
open Go.RowKit
set_option linter.unusedVariables false

/-- The operations as they lie. -/
structure IsOps (W : World) (b off len : Nat) (ow : Nat → Bool) (ob md : Nat → Nat) (xp : Nat → Bool) : Prop where
  lt : b < W.heap.size
  el : ∀ i, i < len → W.cell? ⟨b, off + i * 4, none⟩ = some (.bool (ow i)) ∧ W.cell? ⟨b, off + i * 4 + 1, none⟩ = some (.int .u8 (ob i)) ∧ W.cell? ⟨b, off + i * 4 + 2, none⟩ = some (.int .u8 (md i)) ∧ W.cell? ⟨b, off + i * 4 + 3, none⟩ = some (.bool (xp i))
  bd : ∀ i, i < len → ob i ≤ 255 ∧ md i ≤ 255

def gs0 : Gs := { mh := 0, q := fun _ => 0, th := fun _ => false, inn := fun _ => false, A := fun _ => [], own := fun _ => false, ex := fun _ => false, R := fun _ => .slice none 0 0, C := fun _ => [], K := 0, K2 := 0 }

theorem pur0 : Pur gs0 0 6 := by
  refine ⟨fun _ _ => rfl, fun _ _ => rfl, fun _ _ => rfl, fun _ _ _ h => (by cases h), fun _ _ _ => ⟨rfl, rfl⟩, fun _ _ => List.nodup_nil, fun _ _ _ _ _ h => (by cases h), fun _ _ => Nat.le_refl _, List.nodup_nil, fun r h => (by cases h), fun _ _ _ h => (by cases h), rfl, Nat.le_refl _⟩

theorem mem0 {W0 W1 : World} {en : Bool} (h1 : W1.heap[W0.heap.size + 5]? = some (.cells (manc (W0.heap.size + 1) (W0.heap.size + 2) (W0.heap.size + 3) (W0.heap.size + 4)) 68 (0, 0))) (h2 : W1.heap[W0.heap.size + 1]? = some (.map #[] 0)) (h3 : W1.heap[W0.heap.size + 3]? = some (.map #[] 0)) (h4 : W1.heap.size = W0.heap.size + 6) (h5 : Kept [] W0 W1) :
    Mem W0.heap.size en gs0 W0 ((((W1.alloc (.cells (txc (W0.heap.size + 5) 1 (.slice none 0 0) (.slice none 0 0) en 0) 37 (0, 0))).alloc (.cells (txc (W0.heap.size + 5) 2 (.slice none 0 0) (.slice none 0 0) false 0) 37 (0, 0))).alloc (.cells #[.pointer none, .pointer none, .pointer none, .pointer none, .pointer none, .pointer none] 39 (0, 0))).alloc (.cells #[.slice none 0 0, .slice none 0 0, .slice none 0 0, .slice none 0 0, .slice none 0 0, .slice none 0 0] 40 (0, 0))) := by
  obtain ⟨n1, n2, n3, n4, n5⟩ := new4 W1 (.cells (txc (W0.heap.size + 5) 1 (.slice none 0 0) (.slice none 0 0) en 0) 37 (0, 0)) (.cells (txc (W0.heap.size + 5) 2 (.slice none 0 0) (.slice none 0 0) false 0) 37 (0, 0)) (.cells #[.pointer none, .pointer none, .pointer none, .pointer none, .pointer none, .pointer none] 39 (0, 0)) (.cells #[.slice none 0 0, .slice none 0 0, .slice none 0 0, .slice none 0 0, .slice none 0 0, .slice none 0 0] 40 (0, 0))
  rw [h4] at n1 n2 n3 n4
  have k : Kept [] W1 ((((W1.alloc (.cells (txc (W0.heap.size + 5) 1 (.slice none 0 0) (.slice none 0 0) en 0) 37 (0, 0))).alloc (.cells (txc (W0.heap.size + 5) 2 (.slice none 0 0) (.slice none 0 0) false 0) 37 (0, 0))).alloc (.cells #[.pointer none, .pointer none, .pointer none, .pointer none, .pointer none, .pointer none] 39 (0, 0))).alloc (.cells #[.slice none 0 0, .slice none 0 0, .slice none 0 0, .slice none 0 0, .slice none 0 0, .slice none 0 0] 40 (0, 0))) :=
    (((Kept.alloc _ _ _).trans (Kept.alloc _ _ _)).trans (Kept.alloc _ _ _)).trans (Kept.alloc _ _ _)
  generalize (((W1.alloc _).alloc _).alloc _).alloc _ = w at n1 n2 n3 n4 n5 k
  have far : ∀ b, b < W1.heap.size → w.heap[b]? = W1.heap[b]? := fun b hb => k.blk b hb (by simp)
  refine ⟨(far _ (by omega)).trans h1, ⟨_, by rfl, fun o ho => ?_, n3⟩, ⟨_, by rfl, fun o ho => ?_, n4⟩, fun _ _ h => (by cases h), n1, n2, ⟨fun j hj => World.ownsRow_nil _ _ _ _, fun i j _ _ _ b hb => by simp [gs0, Value.ownBlock] at hb⟩, fun _ _ _ h => (by cases h), ⟨#[], 0, (far _ (by omega)).trans h2, EntAs.empty _ (fun k v ⟨o, _, h, _⟩ => by cases h)⟩, ⟨#[], 0, (far _ (by omega)).trans h3, EntAs.empty _ (fun k v ⟨_, _, o, _, _, h⟩ => by cases h)⟩, fun ⟨o, _, _, h⟩ => (by cases h), fun ⟨o, _, _, h⟩ => (by cases h), h5.trans k, rfl, fun _ _ h => (by cases h), fun _ _ _ h => (by cases h), fun _ _ h => (by cases h), fun _ _ _ _ h => (by cases h)⟩
  · match o, ho with
    | 0, _ | 1, _ | 2, _ | 3, _ | 4, _ | 5, _ => rfl
  · match o, ho with
    | 0, _ | 1, _ | 2, _ | 3, _ | 4, _ | 5, _ => rfl
end Go.Proofs.YbulkbhqsDoor
