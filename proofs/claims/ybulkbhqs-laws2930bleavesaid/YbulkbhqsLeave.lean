/-
  'leave' by a contract. Own work on this program.
-/
import Derived.Test.YbulkbhqsForget
import Derived.Test.YbulkbhqsNewest
import Derived.Test.YbulkbhqsSlices
import Derived.Deep.LoopGhost
namespace Go.Proofs.Ybulkbhqs
open Go.RowKit
set_option linter.unusedVariables false

theorem Yba.info39 : (Yba.prog.info? 39).map (fun i => (i.zero, i.size, i.bytes)) = some (some (.int .u64 0), 1, 8) := by kernel_rfl

theorem owns_of_block {w w' : World} {base : Nat} {e : TypeId} {size : Nat} {v : Value} {n : Nat} {xs : List Value} (h : w.ownsRow base e size v n xs) (hb : ∀ g, v.ownBlock = some g → w'.heap[g]? = w.heap[g]?) : w'.ownsRow base e size v n xs := by
  refine ⟨h.1, ?_⟩
  rcases h.2 with hn | ⟨g, cap, cur, rfl, h1, h2, rest⟩
  · exact .inl hn
  · exact .inr ⟨g, cap, cur, rfl, h1, (hb g rfl).trans h2, rest⟩

/-- A call's own row is grown: what lay outside S and the row lies as it lay. -/
theorem Kept.grown {S : List Nat} {A B : World} {row : Option Nat} (h : A.grownBy B row) (hr : ∀ g, row = some g → g ∈ S ∨ A.heap.size ≤ g) : Kept S A B :=
  ⟨h.os, h.tape, h.output, h.size, fun b hb hn => h.block b hb (fun e => (hr b e.symm).elim hn (fun l => by omega))⟩

/-- i zeros. -/
def zs (i : Nat) : List Value := List.replicate i (.int .u64 0)

/-- The head of 'leave', after i rounds: 'gone' holds i words, all else of the run stands. -/
structure Gone (r : Nat) (W : World) (i : Nat) (vg : Value) (wr : World) : Prop where
  c13 : wr.cell? ⟨r, 13, none⟩ = some vg
  row : wr.ownsRow W.heap.size 39 1 vg i (zs i)
  kept : Kept [r] W wr
  oth : ∀ o, o ≠ 13 → wr.cell? ⟨r, o, none⟩ = W.cell? ⟨r, o, none⟩
  blk : ∃ c, wr.heap[r]? = some (.cells c 63 (0, 0))

theorem Gone.fz {r : Nat} {W : World} {i : Nat} {vg : Value} {wr : World} (h : Gone r W i vg wr) (o : Nat) : wr.frozen? ⟨r, o, none⟩ = false := by
  obtain ⟨c, hc⟩ := h.blk
  simp [World.frozen?, hc]

theorem Gone.step {r : Nat} {W : World} {i : Nat} {vg vg' : Value} {wr w1 : World} {tmp : Obj} (h : Gone r W i vg wr) (hrl : r < W.heap.size) (hown : w1.ownsRow W.heap.size 39 1 vg' (i + 1) (zs i ++ [.int .u64 0])) (hg : (wr.alloc tmp).grownBy w1 vg.ownBlock) :
    w1.cell? ⟨r, 13, none⟩ = some vg ∧ w1.frozen? ⟨r, 13, none⟩ = false ∧ Gone r W (i + 1) vg' (w1.setCell ⟨r, 13, none⟩ vg') := by
  obtain ⟨c13, row, kept, oth, c, hc⟩ := h
  have hrs : r < wr.heap.size := (Array.getElem?_eq_some_iff.1 hc).1
  have hne : some r ≠ vg.ownBlock := by
    intro e
    have := (row.lt r e.symm).1
    omega
  have e1 : (wr.alloc tmp).heap[r]? = wr.heap[r]? := Below.heap_alloc _ _ _ hrs
  have e2 : w1.heap[r]? = wr.heap[r]? := (hg.block r (by simp; omega) hne).trans e1
  have hc1 : w1.heap[r]? = some (.cells c 63 (0, 0)) := e2.trans hc
  have cc : ∀ o, w1.cell? ⟨r, o, none⟩ = wr.cell? ⟨r, o, none⟩ := fun o => World.cell?_of_block (w := wr) (a := ⟨r, o, none⟩) e2
  have hk1 : Kept [r] W w1 := by
    refine ⟨hg.os.trans kept.os, hg.tape.trans kept.tape, hg.output.trans kept.output, Nat.le_trans kept.size (Nat.le_trans (by simp) hg.size), fun b hb hn => ?_⟩
    have hb' : b < wr.heap.size := Nat.lt_of_lt_of_le hb kept.size
    refine ((hg.block b (by simp; omega) ?_).trans (Below.heap_alloc _ _ _ hb')).trans (kept.blk b hb hn)
    intro e
    have := (row.lt b e.symm).1
    omega
  refine ⟨(cc 13).trans c13, by simp [World.frozen?, hc1], World.cell?_setCell_same _ _ _ ((cc 13).trans c13), ?_, hk1.trans (Kept.set _ _ _ _ (by simp) _), fun o ho => (World.cell?_setCell_other _ _ _ _ (by simp)).trans ((cc o).trans (oth o ho)), ?_⟩
  · rw [show zs (i + 1) = zs i ++ [.int .u64 0] from by simp [zs, List.replicate_succ']]
    refine owns_of_block hown (fun g e => Below.heap_setCell _ _ _ _ ?_)
    have := (hown.lt g e).1
    show g ≠ r
    omega
  · exact setCell_isc w1 ⟨r, 13, none⟩ vg' c 63 (0, 0) hc1

theorem Gone.node {ky : Nat → Nat} {r : Nat} {W : World} {i : Nat} {vg : Value} {wr : World} (h : Gone r W i vg wr) (hN : NodeOk ky W r) : NodeOk ky wr r := by
  obtain ⟨⟨d, h1⟩, h2, h3, ⟨pl, hl⟩, ⟨pr, hr⟩, ⟨p, h4⟩, ⟨s, h5⟩, h6, h7, x, h8⟩ := hN
  exact ⟨⟨d, (h.oth _ (by omega)).trans h1⟩, (h.oth _ (by omega)).trans h2, (h.oth _ (by omega)).trans h3, ⟨pl, (h.oth _ (by omega)).trans hl⟩, ⟨pr, (h.oth _ (by omega)).trans hr⟩, ⟨p, (h.oth _ (by omega)).trans h4⟩, ⟨s, (h.oth _ (by omega)).trans h5⟩, h.fz, h7, h.blk⟩

theorem one_new (W : World) (x : Value) (t : TypeId) : ∀ j u, [x][j]? = some u → (W.alloc (.cells #[x] t)).cell? ((⟨W.heap.size, 0, none⟩ : Addr).add j) = some u := by
  intro j u hj
  match j, hj with
  | 0, hj => simp at hj; subst hj; simp [Addr.add]

/-- The word that is set. -/
def bitv (idx : Nat) : Int := IntKind.u64.wrap (2 ^ (idx % 64))

theorem or_bitv (idx : Nat) : bits BinOp.or IntKind.u64 0 (IntKind.u64.wrap (2 ^ (idx % 64))) = bitv idx := by
  unfold bitv
  rw [IntKind.wrap_u64]
  have h : (0 : Int) ≤ 2 ^ (idx % 64) % 18446744073709551616 := Int.emod_nonneg _ (by omega)
  have h' : (2 ^ (idx % 64) : Int) % 18446744073709551616 < 18446744073709551616 := Int.emod_lt_of_pos _ (by omega)
  generalize (2 ^ (idx % 64) : Int) % 18446744073709551616 = x at *
  obtain ⟨n, rfl⟩ := Int.eq_ofNat_of_zero_le h
  have := bits_or_u64_nat 0 n (by omega) (by omega)
  simpa using this

/-- The words of 'gone'. -/
def words (idx : Nat) : List Value := (zs (idx / 64 + 1)).set (idx / 64) (.int .u64 (bitv idx))

/-- What the head of 'leave' leaves: 'gone', 'held', 'inRuns'. -/
structure Headed (ky : Nat → Nat) (r T g cap idx : Nat) (h s : Int) (W W1 : World) : Prop where
  kept : Kept [r, T] W W1
  c13 : W1.cell? ⟨r, 13, none⟩ = some (.slice (some ⟨g, 0, none⟩) (idx / 64 + 1) cap)
  row : W1.ownsRow W.heap.size 39 1 (.slice (some ⟨g, 0, none⟩) (idx / 64 + 1) cap) (idx / 64 + 1) (words idx)
  c12 : W1.cell? ⟨r, 12, none⟩ = some (.int .i64 (h - 1))
  t4 : W1.cell? ⟨T, 4, none⟩ = some (.int .i64 (s - 1))
  roth : ∀ o, o ≠ 12 → o ≠ 13 → W1.cell? ⟨r, o, none⟩ = W.cell? ⟨r, o, none⟩
  toth : ∀ o, o ≠ 4 → W1.cell? ⟨T, o, none⟩ = W.cell? ⟨T, o, none⟩
  node : NodeOk ky W1 r
  blkT : ∃ c, W1.heap[T]? = some (.cells c 50 (0, 0))

theorem headed_mk {ky : Nat → Nat} {r T g cap idx : Nat} {h s : Int} {W wr : World} (hG : Gone r W (idx / 64 + 1) (.slice (some ⟨g, 0, none⟩) (idx / 64 + 1) cap) wr) (hN : NodeOk ky W r) (hT : ∃ c, W.heap[T]? = some (.cells c 50 (0, 0)))
    (c12 : W.cell? ⟨r, 12, none⟩ = some (.int .i64 h)) (t4 : W.cell? ⟨T, 4, none⟩ = some (.int .i64 s)) :
    Headed ky r T g cap idx h s W (((wr.setCell ⟨g, idx / 64, none⟩ (.int .u64 (bitv idx))).setCell ⟨r, 12, none⟩ (.int .i64 (h - 1))).setCell ⟨T, 4, none⟩ (.int .i64 (s - 1))).drew := by
  obtain ⟨cT, hcT⟩ := hT
  obtain ⟨cr, hcr⟩ := hN.blkc
  have hTl : T < W.heap.size := (Array.getElem?_eq_some_iff.1 hcT).1
  have hrl : r < W.heap.size := (Array.getElem?_eq_some_iff.1 hcr).1
  have hTr : T ≠ r := by
    rintro rfl
    rw [hcr] at hcT
    simp at hcT
  have hgs : W.heap.size ≤ g := (hG.row.lt g rfl).1
  have eT : wr.heap[T]? = W.heap[T]? := hG.kept.blk T hTl (by simp [hTr])
  obtain ⟨hst, _⟩ := hG.row.stored (idx / 64) (.int .u64 (bitv idx))
  have far1 : ∀ b, b ≠ g → (wr.setCell ⟨g, idx / 64, none⟩ (.int .u64 (bitv idx))).heap[b]? = wr.heap[b]? := fun b hb => Below.heap_setCell _ _ _ _ hb
  have far2 : ∀ b, b ≠ r → ((wr.setCell ⟨g, idx / 64, none⟩ (.int .u64 (bitv idx))).setCell ⟨r, 12, none⟩ (.int .i64 (h - 1))).heap[b]? = (wr.setCell ⟨g, idx / 64, none⟩ (.int .u64 (bitv idx))).heap[b]? := fun b hb => Below.heap_setCell _ _ _ _ hb
  have far3 : ∀ b, b ≠ T → (((wr.setCell ⟨g, idx / 64, none⟩ (.int .u64 (bitv idx))).setCell ⟨r, 12, none⟩ (.int .i64 (h - 1))).setCell ⟨T, 4, none⟩ (.int .i64 (s - 1))).drew.heap[b]? = ((wr.setCell ⟨g, idx / 64, none⟩ (.int .u64 (bitv idx))).setCell ⟨r, 12, none⟩ (.int .i64 (h - 1))).heap[b]? := fun b hb => Below.heap_setCell _ _ _ _ hb
  have rc : ∀ o, (((wr.setCell ⟨g, idx / 64, none⟩ (.int .u64 (bitv idx))).setCell ⟨r, 12, none⟩ (.int .i64 (h - 1))).setCell ⟨T, 4, none⟩ (.int .i64 (s - 1))).drew.cell? ⟨r, o, none⟩ = ((wr.setCell ⟨g, idx / 64, none⟩ (.int .u64 (bitv idx))).setCell ⟨r, 12, none⟩ (.int .i64 (h - 1))).cell? ⟨r, o, none⟩ := fun o => World.cell?_of_block (a := ⟨r, o, none⟩) (far3 r (Ne.symm hTr))
  have rc1 : ∀ o, (wr.setCell ⟨g, idx / 64, none⟩ (.int .u64 (bitv idx))).cell? ⟨r, o, none⟩ = wr.cell? ⟨r, o, none⟩ := fun o => World.cell?_of_block (a := ⟨r, o, none⟩) (far1 r (by omega))
  have tc : ∀ o, ((wr.setCell ⟨g, idx / 64, none⟩ (.int .u64 (bitv idx))).setCell ⟨r, 12, none⟩ (.int .i64 (h - 1))).cell? ⟨T, o, none⟩ = W.cell? ⟨T, o, none⟩ := fun o => World.cell?_of_block (a := ⟨T, o, none⟩) ((far2 T hTr).trans ((far1 T (by omega)).trans eT))
  have r12 : ∀ o, o ≠ 12 → (((wr.setCell ⟨g, idx / 64, none⟩ (.int .u64 (bitv idx))).setCell ⟨r, 12, none⟩ (.int .i64 (h - 1))).setCell ⟨T, 4, none⟩ (.int .i64 (s - 1))).drew.cell? ⟨r, o, none⟩ = wr.cell? ⟨r, o, none⟩ := fun o ho => (rc o).trans ((World.cell?_setCell_other _ _ _ _ (by simp)).trans (rc1 o))
  have g12 := (hG.oth 12 (by omega)).trans c12
  refine ⟨?_, (r12 13 (by omega)).trans hG.c13, ?_, (rc 12).trans (World.cell?_setCell_same _ _ _ ((rc1 12).trans g12)), World.cell?_setCell_same _ _ _ ((tc 4).trans t4), fun o h1 h2 => (r12 o h1).trans (hG.oth o h2), fun o ho => (World.cell?_setCell_other _ _ _ _ (by simp)).trans (tc o), ?_, ?_⟩
  · have k : Kept [r, T, g] W (((wr.setCell ⟨g, idx / 64, none⟩ (.int .u64 (bitv idx))).setCell ⟨r, 12, none⟩ (.int .i64 (h - 1))).setCell ⟨T, 4, none⟩ (.int .i64 (s - 1))).drew :=
      (((hG.kept.mono (fun x hx => .inl (by simp at hx; simp [hx]))).trans (Kept.set _ _ _ _ (by simp) _)).trans (Kept.set _ _ _ _ (by simp) _)).trans (Kept.set _ _ _ _ (by simp) _)|>.drew
    refine k.mono (fun x hx => ?_)
    simp at hx
    rcases hx with rfl | rfl | rfl
    · exact .inl (by simp)
    · exact .inl (by simp)
    · exact .inr hgs
  · refine owns_of_block hst (fun x e => ?_)
    obtain rfl : g = x := by simpa [Value.ownBlock] using e
    exact (far3 g (by omega)).trans (far2 g (by omega))
  · have n1 := (hG.node hN).of_block (far1 r (by omega))
    exact (n1.store r 12 _ (by omega)).of_block (far3 r (Ne.symm hTr))
  · exact setCell_isc _ ⟨T, 4, none⟩ _ cT 50 (0, 0) ((far2 T hTr).trans ((far1 T (by omega)).trans (eT.trans hcT)))
end Go.Proofs.Ybulkbhqs
