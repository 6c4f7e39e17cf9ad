/-
  'place' by a contract: an index that has no treap yet; both cases together. Own work on this program.
-/
import Derived.Test.YbulkbhqsPlace
namespace Go.Proofs.Ybulkbhqs
open Go.RowKit

theorem cell_ltB {W : World} {a : Addr} {v : Value} (h : W.cell? a = some v) : a.block < W.heap.size := by
  unfold World.cell? at h
  cases ho : W.heap[a.block]? with
  | none => simp [ho] at h
  | some o => exact (Array.getElem?_eq_some_iff.1 ho).1

set_option maxRecDepth 100000 in
set_option maxHeartbeats 1000000 in
/-- 'place', where the index has no treap. -/
theorem place_new (ky : Nat → Nat) (M Rm r ν : Nat) (tb : Nat → Option Nat) (W : World) (cM : W.cell? ⟨M, 5, none⟩ = some (.map (some Rm))) (hMr : M ≠ r) (hmap : MapIs W Rm tb) (hν : ν < 2)
    (hidx : W.cell? ⟨r, 1, none⟩ = some (.string (nms ν))) (hof : W.cell? ⟨r, 21, none⟩ = some (ptr none)) (hok : NodeOk ky W r) (h22 : W.cell? ⟨r, 22, none⟩ = some (ptr none)) (h23 : W.cell? ⟨r, 23, none⟩ = some (ptr none))
    (ht : tb ν = none) :
    Calls Yba.prog 10 #[.pointer (some ⟨M, 0, none⟩), .pointer (some ⟨r, 0, none⟩)] W fun e W' => e = .returned (.tuple #[]) ∧ Placed ky Rm r ν tb [] W W' := by
  have hf21 := hok.fz 21
  have hlk : (Instr.lookup 81 (.map (some Rm)) (.string (nms ν)) false).run Yba.prog W.drew = .ok (.pointer none) W.drew := by
    have := (lookup_any (W := W.drew) (m := Rm) (tb := tb) hmap hν).1; rwa [ht] at this
  obtain ⟨cb, hcb⟩ := hok.blkc
  have hrlt : r < W.heap.size := (Array.getElem?_eq_some_iff.1 hcb).1
  have hRr : Rm ≠ r := hmap.not_cells hcb
  have hRlt : Rm < W.heap.size := by obtain ⟨es, clock, hm, _⟩ := hmap; exact (Array.getElem?_eq_some_iff.1 hm).1
  have HK := (show Hid _ from hok)
  clear hok
  go_enter Yba.func10, Yba.ntmps10
  go_wp2_with fail
  go_region
  go_wp2_with fail
  obtain ⟨WA, hWA⟩ : ∃ WA, WA = (((W.setCell ⟨r, 21, none⟩ (.pointer none)).setCell ⟨r, 21, none⟩ (.pointer (some ⟨W.heap.size, 0, none⟩))).alloc (.cells #[.pointer none] 90)).drew := ⟨_, rfl⟩
  have kA : Kept [r] W WA := hWA ▸ (((Kept.set _ _ _ _ (by simp) _).trans (Kept.set _ _ _ _ (by simp) _)).trans (Kept.alloc _ _ _)).drew
  have hsz : ((W.setCell ⟨r, 21, none⟩ (.pointer none)).setCell ⟨r, 21, none⟩ (.pointer (some ⟨W.heap.size, 0, none⟩))).heap.size = W.heap.size := by simp [World.setCell]
  have hrA : WA.heap[r]? = ((W.setCell ⟨r, 21, none⟩ (.pointer none)).setCell ⟨r, 21, none⟩ (.pointer (some ⟨W.heap.size, 0, none⟩))).heap[r]? := by rw [hWA]; exact Below.heap_alloc _ _ _ (by rw [hsz]; exact hrlt)
  have cA : ∀ o, WA.cell? ⟨r, o, none⟩ = ((W.setCell ⟨r, 21, none⟩ (.pointer none)).setCell ⟨r, 21, none⟩ (.pointer (some ⟨W.heap.size, 0, none⟩))).cell? ⟨r, o, none⟩ := fun o => World.cell?_of_block (a := ⟨r, o, none⟩) hrA
  have stA : ∀ o, o ≠ 21 → WA.cell? ⟨r, o, none⟩ = W.cell? ⟨r, o, none⟩ := fun o ho => (cA o).trans ((World.cell?_setCell_other _ _ _ _ (by simp)).trans (World.cell?_setCell_other _ _ _ _ (by simp)))
  have c21 : WA.cell? ⟨r, 21, none⟩ = some (.pointer (some ⟨W.heap.size, 0, none⟩)) := (cA 21).trans (World.cell?_setCell_same _ _ _ (World.cell?_setCell_same _ _ _ hof))
  have bxA : Boxed WA W.heap.size 90 (ptr none) := by
    have := World.alloc_heap_new ((W.setCell ⟨r, 21, none⟩ (.pointer none)).setCell ⟨r, 21, none⟩ (.pointer (some ⟨W.heap.size, 0, none⟩))) (.cells #[.pointer none] 90)
    rw [hsz] at this
    rw [hWA]; exact this
  have okA : NodeOk ky WA r := ((HK.out.store r 21 (.pointer none) (by omega)).store r 21 (.pointer (some ⟨W.heap.size, 0, none⟩)) (by omega)).of_block hrA
  have mapA : MapIs WA Rm tb := hmap.of_block (kA.blk Rm hRlt (by simp [hRr]))
  have cMA : WA.cell? ⟨M, 5, none⟩ = some (.map (some Rm)) := (World.cell?_of_block (w := W) (a := ⟨M, 5, none⟩) (kA.blk M (cell_ltB cM) (by simp [hMr]))).trans cM
  have idA := (stA 1 (by omega)).trans hidx
  have hszA : W.heap.size < WA.heap.size := bxA.lt
  rw [← hWA]
  clear hWA hsz hrA cA hlk cM hidx hof hf21
  obtain ⟨es, clock, hup, hshape⟩ := update_any (W := WA.drew) (m := Rm) (tb := tb) mapA hν ht W.heap.size
  simp only [ptr, pa] at hup
  have HS := (show Hid _ from And.intro hshape stA)
  have g22 := (stA 22 (by omega)).trans h22
  have g23 := (stA 23 (by omega)).trans h23
  clear hshape stA h22 h23
  go_region
  go_wp2_with fail
  have hRA : WA.drew.heap[Rm]? = WA.heap[Rm]? := rfl
  obtain ⟨es0, clock0, hm0, _⟩ := mapA
  have kB : Kept (r :: Rm :: W.heap.size :: []) W (WA.drew.putObj Rm (.map es clock)) := ((kA.mono (fun x hx => .inl (by simp at hx; simp [hx]))).drew).trans (Kept.put _ _ _ (by simp) _)
  have mapB : MapIs (WA.drew.putObj Rm (.map es clock)) Rm (upd tb ν (some W.heap.size)) := MapIs.put (hRA.trans hm0) HS.out.1
  have blkB : ∀ b, b ≠ Rm → (WA.drew.putObj Rm (.map es clock)).heap[b]? = WA.heap[b]? := fun b hb => World.putObj_heap_other hb
  have okB : NodeOk ky (WA.drew.putObj Rm (.map es clock)) r := okA.of_block (blkB r (Ne.symm hRr))
  have bxB : Boxed (WA.drew.putObj Rm (.map es clock)) W.heap.size 90 (ptr none) := (blkB _ (by omega)).trans bxA
  have cB : ∀ o, (WA.drew.putObj Rm (.map es clock)).cell? ⟨r, o, none⟩ = WA.cell? ⟨r, o, none⟩ := fun o => World.cell?_of_block (w := WA) (a := ⟨r, o, none⟩) (blkB r (Ne.symm hRr))
  have b21 := (cB 21).trans c21
  have b22 := (cB 22).trans g22
  have b23 := (cB 23).trans g23
  have stB : ∀ o, o ≠ 21 → (WA.drew.putObj Rm (.map es clock)).cell? ⟨r, o, none⟩ = W.cell? ⟨r, o, none⟩ := fun o ho => (cB o).trans (HS.out.2 o ho)
  generalize WA.drew.putObj Rm (.map es clock) = W1 at *
  clear cB blkB hup hm0 hRA cMA idA c21 g22 g23 bxA okA kA
  have HT := (show Hid _ from stB)
  clear stB
  have hnd : (r :: ([] : List Nat)).Nodup := by simp
  have HI := (show Hid _ from insert_any ky r 0 none [] W1.drew (Tr.nil _ _ _) hnd (fun x hx => by simp at hx; subst hx; exact okB.drew) b22 b23)
  have bxc := bxB.cell
  simp only [ptr, pa] at bxc
  go_region_with (go_at_call 16; refine (show Calls _ _ _ _ _ from HI.out).mono ?_; rintro e W2 ⟨b, l1, l2, m, rfl, hl, t2, hc⟩; have d21 : W2.cell? ⟨r, 21, none⟩ = some (.pointer (some ⟨W.heap.size, 0, none⟩)) := (hc.cell r 21 (.inr (by omega))).trans b21; have bx2 : Boxed W2 W.heap.size 90 (ptr none) := (hc.blk W.heap.size (by simp; omega)).trans bxB; have bxc2 := bx2.cell; have bxf2 := bx2.frozen)
  all_goals
    go_end0
    exact ⟨rfl, placed_fin (.inr ⟨ht, Nat.le_refl _⟩) kB mapB (fun x hx o ho => by simp at hx; subst hx; exact HT.out o ho) (fun x hx => by simp at hx) b21 bxB (fun x hx => by simp at hx; subst hx; exact okB) hc hl t2⟩
end Go.Proofs.Ybulkbhqs
