/-
  The argument (a slice of Span) opened. Own work on this program.
-/
import Derived.Test.YbulkbhruRows
import Derived.WalkKit
import Derived.ProofKit
import Derived.OpenShut
import Derived.Deep.Slices
namespace Go.Proofs.Ybulkbhru
open Go.ChangeShapes Go.WideShapes Go.ChangeAt Go.RowKit

/-- The slice's value, by the cells of its elements. -/
structure IsSpans (W : World) (ao : Option Addr) (len : Nat) (b off : Nat) (f g m : Nat → Int) : Prop where
  at' : 0 < len → ao = some ⟨b, off, none⟩ ∧ b < W.heap.size
  el : ∀ i, i < len → W.cell? ⟨b, off + i * 3, none⟩ = some (.int .i64 (f i)) ∧ W.cell? ⟨b, off + i * 3 + 1, none⟩ = some (.int .i64 (g i)) ∧ W.cell? ⟨b, off + i * 3 + 2, none⟩ = some (.int .u8 (m i))

theorem cell_lt {W : World} {a : Addr} {v : Value} (h : W.cell? a = some v) : a.block < W.heap.size := by
  unfold World.cell? at h
  cases ho : W.heap[a.block]? with
  | none => simp [ho] at h
  | some o => exact (Array.getElem?_eq_some_iff.1 ho).1

theorem Yba.cells37 : Yba.prog.cellsOf 37 = 3 := by kernel_rfl
theorem Yba.cells2 : Yba.prog.cellsOf 2 = 1 := by kernel_rfl
theorem Yba.cells35 : Yba.prog.cellsOf 35 = 1 := by kernel_rfl

theorem add_plain (b o k : Nat) : (⟨b, o, none⟩ : Addr).add k = ⟨b, o + k, none⟩ := by
  unfold Addr.add; split <;> simp_all

theorem open_spans {H : Type} {enc : TypeId × Value → H} {W : World} {ao : Option Addr} {len cap : Nat} {d : DataW H} {ps : List MemPlace} (h : DataW.Trod enc Yba.prog W 0 (fun _ => true) true 22 (.slice ao len cap) d ps) :
    ∃ (b off : Nat) (f g m : Nat → Int), IsSpans W ao len b off f g m := by
  obtain ⟨fuel, hf⟩ := h
  rcases Deep.open_slice Yba.underlying22 hf with ⟨hcs, _⟩ | ⟨a, len', cap', q, n, D, Pl, hcs, _, hl, _, hq, _, hx⟩
  · simp [Value.cells] at hcs
    obtain ⟨rfl, rfl, rfl⟩ := hcs
    exact ⟨0, 0, fun _ => 0, fun _ => 0, fun _ => 0, fun h => by omega, fun i hi => by omega⟩
  · simp [Value.cells] at hcs
    obtain ⟨rfl, rfl, rfl⟩ := hcs
    simp at hq
    subst hq
    rw [Yba.cells37] at hx
    have each : ∀ i, i < len → ∃ z : Int × Int × Int, W.cell? (a.add (i * 3)) = some (.int .i64 z.1) ∧ W.cell? (a.add (i * 3 + 1)) = some (.int .i64 z.2.1) ∧ W.cell? (a.add (i * 3 + 2)) = some (.int .u8 z.2.2) := by
      intro i hi
      obtain ⟨cs', h1, h2⟩ := hx i (by omega)
      obtain ⟨_, hlen, hcell⟩ := World.cells?_some h1
      obtain ⟨xs, k, _, _, _, hxl, hf⟩ := DataW.trod_struct Yba.underlying37 h2
      match xs, hxl, cs', hlen with
      | [y0, y1, y2], _, [v0, v1, v2], _ =>
        have g0 := hf 0 _ rfl
        have g1 := hf 1 _ rfl
        have g2 := hf 2 _ rfl
        simp [Yba.cells2, Yba.cells35] at g0 g1 g2
        obtain ⟨z0, e0, _, _⟩ := DataW.trod_int Yba.underlying2 g0
        obtain ⟨z1, e1, _, _⟩ := DataW.trod_int Yba.underlying2 g1
        obtain ⟨z2, e2, _, _⟩ := DataW.trod_int Yba.underlying35 g2
        simp at e0 e1 e2
        subst e0 e1 e2
        have c0 := hcell 0 (by omega)
        have c1 := hcell 1 (by omega)
        have c2 := hcell 2 (by omega)
        rw [Deep.add_add] at c0 c1 c2
        exact ⟨(z0, z1, z2), by simpa using c0, by simpa using c1, by simpa using c2⟩
    obtain ⟨z, hz⟩ := Deep.choose_lt each
    refine ⟨a.block, a.off, fun i => (z i).1, fun i => (z i).2.1, fun i => (z i).2.2, fun h0 => ?_, fun i hi => ?_⟩
    · have c := (hz 0 h0).1
      have s := World.cell?_spot c
      have := cell_lt c
      obtain ⟨ab, ao, asp⟩ := a
      simp [Addr.add] at s this
      subst s
      exact ⟨rfl, this⟩
    · obtain ⟨c0, c1, c2⟩ := hz i hi
      have s := World.cell?_spot (hz 0 (by omega)).1
      obtain ⟨ab, ao, asp⟩ := a
      simp [Addr.add] at s
      subst s
      rw [add_plain] at c0 c1 c2
      exact ⟨c0, by rw [Nat.add_assoc]; exact c1, by rw [Nat.add_assoc]; exact c2⟩
end Go.Proofs.Ybulkbhru
