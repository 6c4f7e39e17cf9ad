/-
  'newCutSet' by a contract: what it lays in memory. Own work on this program.
-/
import Derived.Test.YbulkbhrgRows
import Derived.WalkKit
import Derived.ProofKit
import Derived.OpenShut
import Derived.ShutString
import Derived.BigRegion
namespace Go.Proofs.Ybulkbhrg
open Go.ChangeShapes Go.WideShapes Go.ChangeAt Go.RowKit

/-- The weights: powers of the odd number, modulo 2^64. -/
def pw (k : Nat) : Int := ((11400714819323198485 ^ k % 18446744073709551616 : Nat) : Int)

theorem pw_zero : pw 0 = 1 := by decide

theorem pw_succ (k : Nat) : IntKind.u64.wrap (pw k * 11400714819323198485) = pw (k + 1) := by
  rw [IntKind.wrap_u64]
  unfold pw
  rw [Nat.pow_succ, Nat.mul_mod (11400714819323198485 ^ k)]
  omega

theorem Yba.info30 : (Yba.prog.info? 30).map (fun i => (i.zero, i.size, i.bytes)) = some (some (.int .u64 0), 1, 8) := by kernel_rfl

/-- What stands at the head of round k: the struct at block B + 1, the weights at block B. -/
structure CutRel (n k : Nat) (w wr : World) : Prop where
  c0 : wr.cell? ⟨w.heap.size + 1, 0, none⟩ = some (.int .i64 (33554432 / (4 * ((n : Int) + 4))))
  c1 : wr.cell? ⟨w.heap.size + 1, 1, none⟩ = some (.int .i64 0)
  c2 : wr.cell? ⟨w.heap.size + 1, 2, none⟩ = some (.slice (some ⟨w.heap.size, 0, none⟩) n n)
  c3 : wr.cell? ⟨w.heap.size + 1, 3, none⟩ = some (.pointer none)
  c4 : wr.cell? ⟨w.heap.size + 1, 4, none⟩ = some (.slice none 0 0)
  fz : ∀ o, wr.frozen? ⟨w.heap.size, o, none⟩ = false
  all : ∀ j, j < n → ∃ v, wr.cell? ⟨w.heap.size, j, none⟩ = some v
  done : ∀ j, j < k → wr.cell? ⟨w.heap.size, j, none⟩ = some (.int .u64 (pw (j + 1)))
  below : Below w.heap.size w wr

theorem CutRel.start (n : Nat) (w : World) (q : Int) (hq : q = 33554432 / (4 * ((n : Int) + 4))) :
    CutRel n 0 w ((w.alloc (.cells (madeCells #[.int .u64 0] n) 30)).alloc (.cells #[.int .i64 q, .int .i64 0, .slice (some ⟨w.heap.size, 0, none⟩) n n, .pointer none, .slice none 0 0] 28)).drew := by
  subst hq
  have e : ∀ o, ((w.alloc (.cells (madeCells #[.int .u64 0] n) 30)).alloc (.cells #[.int .i64 (33554432 / (4 * ((n : Int) + 4))), .int .i64 0, .slice (some ⟨w.heap.size, 0, none⟩) n n, .pointer none, .slice none 0 0] 28)).drew.cell? ⟨w.heap.size + 1, o, none⟩
      = #[Value.int .i64 (33554432 / (4 * ((n : Int) + 4))), .int .i64 0, .slice (some ⟨w.heap.size, 0, none⟩) n n, .pointer none, .slice none 0 0][o]? := by
    intro o
    rw [World.cell?_drew, World.cell?_alloc_at _ _ _ _ (by simp)]
  refine ⟨?_, ?_, ?_, ?_, ?_, ?_, ?_, ?_, ?_⟩
  · rw [e]; rfl
  · rw [e]; rfl
  · rw [e]; rfl
  · rw [e]; rfl
  · rw [e]; rfl
  · intro o; rw [World.frozen?_drew, World.frozen?_alloc_past _ _ _ (by simp), World.frozen?_alloc_at _ _ _ _ rfl]
  · intro j hj; refine ⟨.int .u64 0, ?_⟩
    rw [World.cell?_drew, World.cell?_alloc_past _ _ _ (by simp), World.cell?_alloc_at _ _ _ _ rfl, ← Array.getElem?_toList, toList_madeCells_one, List.getElem?_replicate, if_pos hj]
  · intro j hj; omega
  · exact (((Below.refl _ _).alloc (Nat.le_refl _) _).alloc (by simp) _).drew

theorem CutRel.step {n k : Nat} {w wr : World} (h : CutRel n k w wr) (hk : k < n) : CutRel n (k + 1) w (wr.setCell ⟨w.heap.size, k, none⟩ (.int .u64 (pw (k + 1)))) := by
  have far : ∀ o, (wr.setCell ⟨w.heap.size, k, none⟩ (.int .u64 (pw (k + 1)))).cell? ⟨w.heap.size + 1, o, none⟩ = wr.cell? ⟨w.heap.size + 1, o, none⟩ := fun o => World.cell?_setCell_other _ _ _ _ (by simp)
  refine ⟨(far _).trans h.c0, (far _).trans h.c1, (far _).trans h.c2, (far _).trans h.c3, (far _).trans h.c4, fun o => (World.frozen?_setCell _ _ _ _).trans (h.fz o), ?_, ?_, h.below.setCell (Nat.le_refl _) _⟩
  · intro j hj
    obtain ⟨v, hv⟩ := h.all j hj
    by_cases e : j = k
    · subst e; exact ⟨_, World.cell?_setCell_same _ _ _ hv⟩
    · exact ⟨v, (World.cell?_setCell_other _ _ _ _ (by simp)).trans hv⟩
  · intro j hj
    by_cases e : j = k
    · subst e
      obtain ⟨v, hv⟩ := h.all j hk
      exact World.cell?_setCell_same _ _ _ hv
    · exact (World.cell?_setCell_other _ _ _ _ (by simp)).trans (h.done j (by omega))

set_option maxHeartbeats 400000 in
theorem cut_any (n : Nat) (hn : n ≤ 4096) (w : World) :
    Calls Yba.prog 5 #[.int .i64 n] w fun e w' => e = .returned (.pointer (some ⟨w.heap.size + 1, 0, none⟩)) ∧ CutRel n n w w' := by
  obtain ⟨i0, hi, hz0, hz1, hz2⟩ := info_parts Yba.info30
  have hmk : ∀ W : World, (Instr.makeSlice 24 (.int .i64 (n : Int)) (.int .i64 (n : Int))).run Yba.prog W = .ok (.slice (some ⟨W.heap.size, 0, none⟩) n n) (W.alloc (.cells (madeCells #[.int .u64 0] n) 30)) := by
    intro W
    have h := run_make (P := Yba.prog) W 24 30 i0 (.int .u64 0) Yba.underlying24 hi hz0 .i64 .i64 n n (by omega) (by omega) (by rw [hz2]; omega) (by omega)
    rw [h, hz1]; simp [Value.cells]
  clear hi hz0 hz1 hz2
  go_enter Yba.func5, Yba.ntmps5
  go_wp2
  go_region
  go_wp2
  go_loopw [4, 19] (fun x i wr => ∃ k : Nat, k ≤ n ∧ i = .int .i64 k ∧ x = .int .u64 (pw k) ∧ CutRel n k w wr) (fun _ i _ => n - (intOf i).toNat)
  case atStart => exact ⟨0, Nat.zero_le _, rfl, by rw [pw_zero], CutRel.start n w _ rfl⟩
  case round =>
    obtain ⟨k, hk, rfl, rfl, hr⟩ := hrel
    have hc2 := hr.c2
    by_cases hlt : k < n
    · obtain ⟨v, hv⟩ := hr.all k hlt
      have hfz := hr.fz k
      go_wp2
      go_roundw
      case rel => exact ⟨k + 1, by omega, by go_num, by rw [pw_succ], by rw [pw_succ]; exact hr.step hlt⟩
      case measure => simp [intOf]; omega
    · go_wp2
      go_ret
      have e : k = n := by omega
      subst e
      exact ⟨rfl, hr⟩
end Go.Proofs.Ybulkbhrg
