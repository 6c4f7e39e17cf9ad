/-
  Behind the law's build loop: the slots. Own work on this program.
-/
import Derived.Test.YbulkbhqsBuild
namespace Go.Proofs.Ybulkbhqs
open Go.RowKit
set_option linter.unusedVariables false

/-- What stands between the build loop and 'leave'. -/
structure MInv (w : World) (xs : Array Value) (sm : Int) (ky nm : Nat → Nat) (hd : Nat → Int) (tb : Nat → Option Nat) (l : Nat → List Nat) (bs : List Nat) (v : Value) (nl : Nat → Option Nat) (W : World) : Prop where
  st : St0 ky nm hd (w.heap.size + 9) (w.heap.size + 8) (w.heap.size + 7) w.heap.size tb l bs W
  t3 : W.cell? ⟨w.heap.size + 9, 3, none⟩ = some v
  row : W.ownsRow w.heap.size 45 1 v bs.length (ptrs bs)
  t4 : W.cell? ⟨w.heap.size + 9, 4, none⟩ = some (.int .i64 sm)
  slots : ∀ i, i < 4 → SlotIs W (w.heap.size + 9) 13 nm nl i
  nls : ∀ i, i < 4 → ∀ b, nl i = some b → b ∈ bs
  bX : W.heap[w.heap.size]? = some (.cells xs 33 (0, 0))
  bN : W.heap[w.heap.size + 1]? = some (.cells #[.string (nms 0), .string (nms 1)] 34 (0, 0))
  low : Below w.heap.size w W

variable {w : World} {xs : Array Value} {j : Nat} {sm : Int} {ky nm : Nat → Nat} {hd : Nat → Int} {tb : Nat → Option Nat} {l : Nat → List Nat} {bs : List Nat} {v : Value} {nl : Nat → Option Nat} {W W' : World}

/-- Only the transaction's block may have turned. -/
theorem MInv.frameT (h : MInv w xs sm ky nm hd tb l bs v nl W) {nl' : Nat → Option Nat} {sm' : Int} (hk : ∀ b, b ≠ w.heap.size + 9 → b < W.heap.size → W'.heap[b]? = W.heap[b]?) (hT : ∃ c, W'.heap[w.heap.size + 9]? = some (.cells c 50 (0, 0)))
    (t3 : W'.cell? ⟨w.heap.size + 9, 3, none⟩ = some v) (t4 : W'.cell? ⟨w.heap.size + 9, 4, none⟩ = some (.int .i64 sm')) (slots : ∀ i, i < 4 → SlotIs W' (w.heap.size + 9) 13 nm nl' i) (nls : ∀ i, i < 4 → ∀ b, nl' i = some b → b ∈ bs) (low : Below w.heap.size W W') :
    MInv w xs sm' ky nm hd tb l bs v nl' W' := by
  have lt : ∀ {b : Nat} {o : Obj}, W.heap[b]? = some o → b < W.heap.size := fun hb => (Array.getElem?_eq_some_iff.1 hb).1
  obtain ⟨cT, hcT⟩ := h.st.bT
  obtain ⟨es, clock, hm, hs⟩ := h.st.map
  refine ⟨h.st.frame (fun b c e hb h1 h2 => hk b (cells_ne hb hcT h2) (lt hb)) (hk _ (by omega) (lt hm)) hT, t3, owns_of_block h.row (fun g e => ?_), t4, slots, nls, (hk _ (by omega) (lt h.bX)).trans h.bX, (hk _ (by omega) (lt h.bN)).trans h.bN, h.low.trans low⟩
  obtain ⟨c, hc⟩ := row_blk h.row e
  exact hk g (cells_ne hc hcT (by decide)) (lt hc)

/-- New blocks, draws. -/
theorem MInv.grow (h : MInv w xs sm ky nm hd tb l bs v nl W) (hk : ∀ b, b < W.heap.size → W'.heap[b]? = W.heap[b]?) (low : Below w.heap.size W W') : MInv w xs sm ky nm hd tb l bs v nl W' := by
  have lt : ∀ {b : Nat} {o : Obj}, W.heap[b]? = some o → b < W.heap.size := fun hb => (Array.getElem?_eq_some_iff.1 hb).1
  obtain ⟨cT, hcT⟩ := h.st.bT
  have eT := hk _ (lt hcT)
  exact h.frameT (fun b _ hb => hk b hb) ⟨cT, eT.trans hcT⟩ ((World.cell?_of_block (w := W) (a := ⟨_, 3, none⟩) eT).trans h.t3) ((World.cell?_of_block (w := W) (a := ⟨_, 4, none⟩) eT).trans h.t4) (fun i hi => (h.slots i hi).of_block eT) h.nls low

/-- A slot laid anew: three cells. -/
def set3 (W : World) (T : Nat) (nm : Nat → Nat) (i : Nat) (o : Option Nat) : World :=
  ((W.setCell ⟨T, 13 + i * 3, none⟩ (.string (nix nm o))).setCell ⟨T, 13 + i * 3 + 1, none⟩ (ptr o)).setCell ⟨T, 13 + i * 3 + 2, none⟩ (.pointer none)

theorem set3_far {T i b : Nat} {o : Option Nat} (hb : b ≠ T) : (set3 W T nm i o).heap[b]? = W.heap[b]? :=
  (Below.heap_setCell _ _ _ _ hb).trans ((Below.heap_setCell _ _ _ _ hb).trans (Below.heap_setCell _ _ _ _ hb))

theorem set3_cell {T i k : Nat} {o : Option Nat} (h : k < 13 + i * 3 ∨ 13 + i * 3 + 2 < k) : (set3 W T nm i o).cell? ⟨T, k, none⟩ = W.cell? ⟨T, k, none⟩ := by
  have e : ∀ q, q < 3 → (⟨T, 13 + i * 3 + q, none⟩ : Addr) ≠ ⟨T, k, none⟩ := by intro q hq e; simp at e
  exact (World.cell?_setCell_other _ _ _ _ (e 2 (by omega))).trans ((World.cell?_setCell_other _ _ _ _ (e 1 (by omega))).trans (World.cell?_setCell_other _ _ _ _ (e 0 (by omega))))

theorem set3_slots {T i : Nat} {o : Option Nat} (hs : ∀ j, j < 4 → SlotIs W T 13 nm nl j) (hi : i < 4) : ∀ j, j < 4 → SlotIs (set3 W T nm i o) T 13 nm (upd nl i o) j := by
  intro j hj
  by_cases e : j = i
  · subst e
    obtain ⟨s1, s2, s3⟩ := hs j hj
    have u : upd nl j o j = o := by simp [upd]
    have d1 : (W.setCell ⟨T, 13 + j * 3, none⟩ (.string (nix nm o))).cell? ⟨T, 13 + j * 3, none⟩ = some (.string (nix nm o)) := World.cell?_setCell_same _ _ _ s1
    have d2 : (W.setCell ⟨T, 13 + j * 3, none⟩ (.string (nix nm o))).cell? ⟨T, 13 + j * 3 + 1, none⟩ = some (ptr (nl j)) := (World.cell?_setCell_other _ _ _ _ (by simp)).trans s2
    have d3 : (W.setCell ⟨T, 13 + j * 3, none⟩ (.string (nix nm o))).cell? ⟨T, 13 + j * 3 + 2, none⟩ = some (.pointer none) := (World.cell?_setCell_other _ _ _ _ (by simp)).trans s3
    have e2 : ((W.setCell ⟨T, 13 + j * 3, none⟩ (.string (nix nm o))).setCell ⟨T, 13 + j * 3 + 1, none⟩ (ptr o)).cell? ⟨T, 13 + j * 3 + 1, none⟩ = some (ptr o) := World.cell?_setCell_same _ _ _ d2
    have e3 : ((W.setCell ⟨T, 13 + j * 3, none⟩ (.string (nix nm o))).setCell ⟨T, 13 + j * 3 + 1, none⟩ (ptr o)).cell? ⟨T, 13 + j * 3 + 2, none⟩ = some (.pointer none) := (World.cell?_setCell_other _ _ _ _ (by simp)).trans d3
    refine ⟨?_, ?_, ?_⟩
    · rw [u]; exact (World.cell?_setCell_other _ _ _ _ (by simp)).trans ((World.cell?_setCell_other _ _ _ _ (by simp)).trans d1)
    · rw [u]; exact (World.cell?_setCell_other _ _ _ _ (by simp)).trans e2
    · exact World.cell?_setCell_same _ _ _ e3
  · obtain ⟨k1, k2, k3⟩ := hs j hj
    have u : upd nl i o j = nl j := by simp [upd, e]
    exact ⟨by rw [u]; exact (set3_cell (by omega)).trans k1, by rw [u]; exact (set3_cell (by omega)).trans k2, (set3_cell (by omega)).trans k3⟩

theorem set3_isc {T i : Nat} {o : Option Nat} {c : Array Value} (h : W.heap[T]? = some (.cells c 50 (0, 0))) : ∃ c', (set3 W T nm i o).heap[T]? = some (.cells c' 50 (0, 0)) := by
  obtain ⟨c1, h1⟩ := setCell_isc W ⟨T, 13 + i * 3, none⟩ (.string (nix nm o)) c 50 (0, 0) h
  obtain ⟨c2, h2⟩ := setCell_isc _ ⟨T, 13 + i * 3 + 1, none⟩ (ptr o) c1 50 (0, 0) h1
  exact setCell_isc _ ⟨T, 13 + i * 3 + 2, none⟩ (.pointer none) c2 50 (0, 0) h2

/-- 't.newestLocks[i] = newestLock{..}'. -/
theorem MInv.set (h : MInv w xs sm ky nm hd tb l bs v nl W) {i b : Nat} (hi : i < 4) (hb : b ∈ bs) : MInv w xs sm ky nm hd tb l bs v (upd nl i (some b)) (set3 W (w.heap.size + 9) nm i (some b)).drew := by
  obtain ⟨cT, hcT⟩ := h.st.bT
  have hl := h.st.geT
  refine h.frameT (fun b' hb' _ => set3_far (W := W) (nm := nm) (i := i) (o := some b) hb') (set3_isc (W := W) (nm := nm) (i := i) (o := some b) hcT) ((set3_cell (W := W) (nm := nm) (by omega)).trans h.t3) ((set3_cell (W := W) (nm := nm) (by omega)).trans h.t4) (fun j hj => ?_) ?_ ?_
  · have := set3_slots (o := some b) h.slots hi j hj
    exact ⟨this.ix, this.rn, this.rq⟩
  · intro j hj b' e
    simp only [upd] at e
    split at e
    · cases e; exact hb
    · exact h.nls j hj b' e
  · exact ((((Below.refl _ W).setCell (p := ⟨_, _, none⟩) hl _).setCell (p := ⟨_, _, none⟩) hl _).setCell (p := ⟨_, _, none⟩) hl _).drew

/-- 't.inRuns = sum' behind the build loop. -/
theorem BInv.mid {s : Int} (h : BInv w xs j s ky nm hd tb l bs v W) : MInv w xs s ky nm hd tb l bs v (fun _ => none) (W.setCell ⟨w.heap.size + 9, 4, none⟩ (.int .i64 s)) := by
  obtain ⟨cT, hcT⟩ := h.st.bT
  have h0 : MInv w xs 0 ky nm hd tb l bs v (fun _ => none) W := ⟨h.st, h.t3, h.row, h.t4, h.slots, fun _ _ _ e => (by cases e), h.bX, h.bN, h.low⟩
  have tc : ∀ o, o ≠ 4 → (W.setCell ⟨w.heap.size + 9, 4, none⟩ (.int .i64 s)).cell? ⟨w.heap.size + 9, o, none⟩ = W.cell? ⟨w.heap.size + 9, o, none⟩ := fun o ho => World.cell?_setCell_other _ _ _ _ (by simp)
  refine h0.frameT (fun b hb _ => Below.heap_setCell _ _ _ _ hb) (setCell_isc W ⟨_, 4, none⟩ _ cT 50 (0, 0) hcT) ((tc 3 (by omega)).trans h.t3) (World.cell?_setCell_same _ _ _ h.t4) (fun i hi => ?_) (fun _ _ _ e => (by cases e)) ((Below.refl _ W).setCell (p := ⟨_, 4, none⟩) (by simp) _)
  obtain ⟨s1, s2, s3⟩ := h.slots i hi
  exact ⟨(tc _ (by omega)).trans s1, (tc _ (by omega)).trans s2, (tc _ (by omega)).trans s3⟩
end Go.Proofs.Ybulkbhqs
