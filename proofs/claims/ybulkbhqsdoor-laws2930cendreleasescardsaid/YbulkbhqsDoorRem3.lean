/-
  'queue.remove' of an exposed request, by a contract. Own work on this program.
-/
import Derived.Test.YbulkbhqsDoorRem2
namespace Go.Proofs.YbulkbhqsDoor
open Go.RowKit
set_option linter.unusedVariables false

theorem setCell_isc (W : World) (a : Addr) (v : Value) (c : Array Value) (e : TypeId) (fr : Nat × Nat) (h : W.heap[a.block]? = some (.cells c e fr)) : ∃ c', (W.setCell a v).heap[a.block]? = some (.cells c' e fr) := by
  obtain ⟨hlt, hk⟩ := Array.getElem?_eq_some_iff.1 h
  refine ⟨if a.spot.isSome = true then c else c.setIfInBounds a.off v, ?_⟩
  show (W.heap.modify a.block _)[a.block]? = _
  rw [Array.getElem?_eq_getElem (by rw [Array.size_modify]; exact hlt), Array.getElem_modify_self, hk]

set_option maxRecDepth 100000 in
set_option maxHeartbeats 1000000 in
theorem remove_on {Q r t g cap i base : Nat} {l : List Nat} {k : Int} {W : World} (p : RemPre Q r t g cap i base l true k W) :
    Calls Ybad.prog 8 #[.pointer (some ⟨Q, 0, none⟩), .pointer (some ⟨r, 0, none⟩)] W fun e W' => e = .returned (.tuple #[]) ∧ ∃ W1, W1.ownsRow base 29 1 (.slice (some ⟨g, 0, none⟩) (l.length - 1) cap) (l.length - 1) (ptrs (l.eraseIdx i)) ∧ Kept [g] ((W.setCell ⟨r, 11, none⟩ (.bool false)).setCell ⟨t, 11, none⟩ (.int .i64 (k - 1))) W1 ∧ W' = W1.setCell ⟨Q, 4, none⟩ (.slice (some ⟨g, 0, none⟩) (l.length - 1) cap) := by
  have il : i < l.length := (List.getElem?_eq_some_iff.1 p.hi).1
  have c5w := p.lines
  have c4 := p.reqs
  obtain ⟨cQ, hcQ⟩ := p.bQ
  obtain ⟨cr, hcr⟩ := p.blk r (List.mem_of_getElem? p.hi)
  obtain ⟨cg, hcg⟩ := row_blk p.row rfl
  have hgQ : Q ≠ g := cells_ne hcQ hcg (by decide)
  have hgr : r ≠ g := cells_ne hcr hcg (by decide)
  have hlen := p.len
  obtain ⟨ct, hct⟩ := p.bt
  have hrt : r ≠ t := cells_ne hcr hct (by decide)
  have hQt : Q ≠ t := cells_ne hcQ hct (by decide)
  have hQr : Q ≠ r := cells_ne hcQ hcr (by decide)
  have hgt : t ≠ g := cells_ne hct hcg (by decide)
  have HN := (show Hid _ from note_on r t k W p.k0 p.k1 hrt p.exposed p.txn p.cnt (by simp [World.frozen?, hcr]) (by simp [World.frozen?, hct]))
  obtain ⟨V, hV⟩ : ∃ V, V = (W.setCell ⟨r, 11, none⟩ (.bool false)).setCell ⟨t, 11, none⟩ (.int .i64 (k - 1)) := ⟨_, rfl⟩
  have far : ∀ b, b ≠ r → b ≠ t → V.heap[b]? = W.heap[b]? := fun b h1 h2 => by rw [hV]; exact (Below.heap_setCell _ _ _ _ h2).trans (Below.heap_setCell _ _ _ _ h1)
  have vrow : V.ownsRow base 29 1 (.slice (some ⟨g, 0, none⟩) l.length cap) l.length (ptrs l) := owns_of_block p.row (fun g' e => by obtain rfl : g = g' := (by simpa [Value.ownBlock] using e); exact far g (Ne.symm hgr) (Ne.symm hgt))
  have vblk : ∀ x ∈ l, ∃ c, V.heap[x]? = some (.cells c 72 (0, 0)) := by
    intro x hx
    obtain ⟨c, hc⟩ := p.blk x hx
    have hxt : x ≠ t := cells_ne hc hct (by decide)
    by_cases e : x = r
    · subst e
      rw [hV, Below.heap_setCell _ _ _ _ hxt]
      exact setCell_isc W ⟨x, 11, none⟩ _ c 72 (0, 0) hc
    · exact ⟨c, (far x e hxt).trans hc⟩
  have HI := (show Hid _ from index_any l base _ r i V p.len vrow p.hi p.first vblk)
  have HD := (show Hid _ from delete_any l base g cap i V p.len vrow il)
  have vQ := far Q hQr hQt
  have c5 : V.cell? ⟨Q, 5, none⟩ = _ := (World.cell?_of_block (w := W) (a := ⟨Q, 5, none⟩) vQ).trans p.lines
  have d4 : V.cell? ⟨Q, 4, none⟩ = _ := (World.cell?_of_block (w := W) (a := ⟨Q, 4, none⟩) vQ).trans p.reqs
  have vg : V.cell? ⟨r, 10, none⟩ = some (.bool true) := by
    rw [hV]; exact (World.cell?_of_block (a := ⟨r, 10, none⟩) (Below.heap_setCell _ _ _ _ hrt)).trans ((World.cell?_setCell_other _ _ _ _ (by simp)).trans p.granted)
  have hcQ' := vQ.trans hcQ
  obtain ⟨cr', hcr'⟩ := vblk r (List.mem_of_getElem? p.hi)
  rw [← hV] at HN
  have HV := (show Hid _ from hV)
  clear far vrow vblk vQ hV
  go_enter Ybad.func8, Ybad.ntmps8
  go_wp2_with fail
  refine (show Calls _ _ _ _ _ from HN.out).mono ?_
  rintro e W1 ⟨rfl, rfl⟩
  go_wp2_with fail
  refine (show Calls _ _ _ _ _ from HI.out).mono ?_
  rintro e W1 ⟨rfl, rfl⟩
  go_wp2_with fail
  refine (show Calls _ _ _ _ _ from HD.out).mono ?_
  rintro e W2 ⟨rfl, hrow, hk⟩
  have eQ : W2.heap[Q]? = W1.heap[Q]? := hk.blk Q (Array.getElem?_eq_some_iff.1 hcQ').1 (by simp [hgQ])
  have er : W2.heap[r]? = W1.heap[r]? := hk.blk r (Array.getElem?_eq_some_iff.1 hcr').1 (by simp [hgr])
  have c4' : W2.cell? ⟨Q, 4, none⟩ = some (.slice (some ⟨g, 0, none⟩) l.length cap) := (World.cell?_of_block (w := W1) (a := ⟨Q, 4, none⟩) eQ).trans d4
  have f4' : W2.frozen? ⟨Q, 4, none⟩ = false := by simp [World.frozen?, eQ, hcQ']
  have cg10 : W2.cell? ⟨r, 10, none⟩ = some (.bool true) := (World.cell?_of_block (w := W1) (a := ⟨r, 10, none⟩) er).trans vg
  have HR := (show Hid _ from And.intro hrow hk)
  clear hrow hk eQ er hcQ hcr hcg
  go_wp2_with fail
  go_end0
  exact ⟨rfl, W2, HR.out.1, HV.out ▸ HR.out.2, rfl⟩
end Go.Proofs.YbulkbhqsDoor
