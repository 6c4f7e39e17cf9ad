/-
  What the law's checks read, kept over the law's own stores. Own work on this program.
-/
import Derived.Test.YbulkbhqsAfter2
namespace Go.Proofs.Ybulkbhqs
open Go.RowKit
set_option linter.unusedVariables false

/-- The copy of the four slots. -/
def slotsBlk (nm : Nat → Nat) (nl : Nat → Option Nat) : Obj :=
  .cells #[.string (nix nm (nl 0)), .pointer (pa (nl 0)), .pointer none, .string (nix nm (nl 1)), .pointer (pa (nl 1)), .pointer none, .string (nix nm (nl 2)), .pointer (pa (nl 2)), .pointer none, .string (nix nm (nl 3)), .pointer (pa (nl 3)), .pointer none] 48 (0, 0)

theorem slots_at {W : World} {b : Nat} {nm : Nat → Nat} {nl : Nat → Option Nat} (h : W.heap[b]? = some (slotsBlk nm nl)) (i : Nat) (hi : i < 4) :
    W.cell? ⟨b, i * 3, none⟩ = some (.string (nix nm (nl i))) ∧ W.cell? ⟨b, i * 3 + 1, none⟩ = some (.pointer (pa (nl i))) ∧ W.cell? ⟨b, i * 3 + 2, none⟩ = some (.pointer none) := by
  match i, hi with
  | 0, _ => simp [World.cell?, h, slotsBlk]
  | 1, _ => simp [World.cell?, h, slotsBlk]
  | 2, _ => simp [World.cell?, h, slotsBlk]
  | 3, _ => simp [World.cell?, h, slotsBlk]

structure Fin2 (w : World) (ky nm : Nat → Nat) (gs gc : Nat) (bs cur : List Nat) (nl nl' tb : Nat → Option Nat) (l : Nat → List Nat) (v : Value) (W : World) : Prop where
  t3 : W.cell? ⟨w.heap.size + 9, 3, none⟩ = some v
  row : W.ownsRow w.heap.size 45 1 v cur.length (ptrs cur)
  at' : ∀ (i b : Nat), cur[i]? = some b → W.cell? ⟨b, 14, none⟩ = some (.int .i64 i)
  node : ∀ b ∈ bs, NodeOk ky W b ∧ W.cell? ⟨b, 1, none⟩ = some (.string (nms (nm b)))
  nm2 : ∀ b ∈ bs, nm b < 2
  slots : ∀ i, i < 4 → SlotIs W (w.heap.size + 9) 13 nm nl' i
  cM : W.cell? ⟨w.heap.size + 8, 5, none⟩ = some (.map (some (w.heap.size + 7)))
  map : MapIs W (w.heap.size + 7) tb
  tree : ∀ ν, ν < 2 → TreeIs ky (tb ν) (l ν) W
  perm : ∀ ν, ν < 2 → (l ν).Perm (cur.filter (fun b => nm b = ν))
  sub : ∀ b ∈ cur, b ∈ bs
  nls : ∀ i, i < 4 → ∀ b, nl i = some b → b ∈ bs
  bN : W.heap[w.heap.size + 1]? = some (.cells #[.string (nms 0), .string (nms 1)] 34 (0, 0))
  sl : W.heap[gs]? = some (slotsBlk nm nl)
  gcb : ∃ c, W.heap[gc]? = some (.cells c 45 (0, 0))
  gcn : w.heap.size + 9 < gc
  gcv : v.ownBlock ≠ some gc
  low : Below w.heap.size w W

variable {w : World} {xs : Array Value} {j gs gc : Nat} {sm : Int} {ky nm : Nat → Nat} {hd : Nat → Int} {tb tb' : Nat → Option Nat} {l l' : Nat → List Nat} {bs cur : List Nat} {v v' : Value} {nl nl' : Nat → Option Nat} {W W' : World}

/-- Only the block gc and new blocks have turned. -/
theorem Fin2.frame (h : Fin2 w ky nm gs gc bs cur nl nl' tb l v W) (hk : ∀ b, b ≠ gc → b < W.heap.size → W'.heap[b]? = W.heap[b]?) (hg : ∃ c, W'.heap[gc]? = some (.cells c 45 (0, 0))) (low : Below w.heap.size W W') : Fin2 w ky nm gs gc bs cur nl nl' tb l v W' := by
  have lt : ∀ {b : Nat} {o : Obj}, W.heap[b]? = some o → b < W.heap.size := fun hb => (Array.getElem?_eq_some_iff.1 hb).1
  obtain ⟨c, hc⟩ := h.gcb
  have hcl := lt hc
  have hgn := h.gcn
  have eT : W'.heap[w.heap.size + 9]? = W.heap[w.heap.size + 9]? := hk _ (by omega) (by omega)
  have eM : W'.heap[w.heap.size + 8]? = W.heap[w.heap.size + 8]? := hk _ (by omega) (by omega)
  have eN : W'.heap[w.heap.size + 1]? = W.heap[w.heap.size + 1]? := hk _ (by omega) (by omega)
  have eR : W'.heap[w.heap.size + 7]? = W.heap[w.heap.size + 7]? := hk _ (by omega) (by omega)
  have er : ∀ b ∈ bs, W'.heap[b]? = W.heap[b]? := by
    intro b hb
    obtain ⟨c', hc'⟩ := (h.node b hb).1.blkc
    exact hk b (cells_ne hc' hc (by decide)) (lt hc')
  have ec : ∀ b ∈ bs, ∀ o, W'.cell? ⟨b, o, none⟩ = W.cell? ⟨b, o, none⟩ := fun b hb o => World.cell?_of_block (w := W) (a := ⟨b, o, none⟩) (er b hb)
  have hmem : ∀ ν, ν < 2 → ∀ x ∈ l ν, x ∈ bs := fun ν hν x hx => h.sub x ((List.mem_filter.1 ((h.perm ν hν).mem_iff.1 hx)).1)
  refine ⟨(World.cell?_of_block (w := W) (a := ⟨_, 3, none⟩) eT).trans h.t3, owns_of_block h.row (fun g e => ?_), fun i b hb => (ec b (h.sub b (List.mem_of_getElem? hb)) 14).trans (h.at' i b hb), fun b hb => ⟨(h.node b hb).1.of_block (er b hb), (ec b hb 1).trans (h.node b hb).2⟩, h.nm2, fun i hi => (h.slots i hi).of_block eT,
    (World.cell?_of_block (w := W) (a := ⟨_, 5, none⟩) eM).trans h.cM, h.map.of_block eR, fun ν hν => ?_, h.perm, h.sub, h.nls, eN.trans h.bN, (hk gs (cells_ne h.sl hc (by decide)) (lt h.sl)).trans h.sl, hg, hgn, h.gcv, h.low.trans low⟩
  · obtain ⟨c', hc'⟩ := row_blk h.row e
    exact hk g (fun e' => h.gcv (by rw [e, e'])) (lt hc')
  · rcases h.tree ν hν with e | ⟨t, root, n, e, hbx, htr⟩
    · exact .inl e
    · exact .inr ⟨t, root, n, e, (hk t (cells_ne hbx hc (by decide)) (lt hbx)).trans hbx, htr.same (fun x hx => ⟨ec x (hmem ν hν x hx) 22, ec x (hmem ν hν x hx) 23⟩)⟩

theorem Fin2.grow (h : Fin2 w ky nm gs gc bs cur nl nl' tb l v W) (hk : ∀ b, b < W.heap.size → W'.heap[b]? = W.heap[b]?) (low : Below w.heap.size W W') : Fin2 w ky nm gs gc bs cur nl nl' tb l v W' := by
  obtain ⟨c, hc⟩ := h.gcb
  exact h.frame (fun b _ hb => hk b hb) ⟨c, (hk gc (Array.getElem?_eq_some_iff.1 hc).1).trans hc⟩ low

theorem Fin2.store (h : Fin2 w ky nm gs gc bs cur nl nl' tb l v W) (o : Nat) (x : Value) : Fin2 w ky nm gs gc bs cur nl nl' tb l v (W.setCell ⟨gc, o, none⟩ x) := by
  obtain ⟨c, hc⟩ := h.gcb
  have := h.gcn
  exact h.frame (fun b hb _ => Below.heap_setCell _ _ _ _ hb) (setCell_isc W ⟨gc, o, none⟩ x c 45 (0, 0) hc) ((Below.refl _ W).setCell (p := ⟨gc, o, none⟩) (by show w.heap.size ≤ gc; omega) _)

/-- Out of what 'leave' left. -/
theorem Fin.two {r pos idx g capg capc j gb : Nat} {h s : Int} (hf : Fin w ky nm r idx h s bs cur nl' tb' l' (.slice (some ⟨g, 0, none⟩) j capg) v' W W') (hw : Went nm r pos h bs nl (.slice (some ⟨g, 0, none⟩) j capg) cur nl' v') (hpos : bs[pos]? = some r)
    (hm : MInv w xs sm ky nm hd tb l bs (.slice (some ⟨g, 0, none⟩) j capg) nl W) (hrc : W.ownsRow gb 45 1 (.slice (some ⟨gc, 0, none⟩) j capc) j (ptrs bs)) (hgn : w.heap.size + 9 < gc) (hgg : g ≠ gc) (hgs : W.heap[gs]? = some (slotsBlk nm nl)) :
    Fin2 w ky nm gs gc bs cur nl nl' tb' l' v' W' := by
  obtain ⟨cc, hcc⟩ := row_blk hrc (g := gc) rfl
  obtain ⟨cN, hcN⟩ : ∃ c, W.heap[g]? = some (.cells c 45 (0, 0)) := row_blk hm.row rfl
  have kc := hf.keep gc cc 45 hcc (by decide) (by decide) (by decide) (by simp [Value.ownBlock, hgg])
  have kN := hf.keep _ _ 34 hm.bN (by decide) (by decide) (by decide) (fun e => by obtain rfl : g = w.heap.size + 1 := (by simpa [Value.ownBlock] using e); exact cells_ne hm.bN hcN (by decide) rfl)
  have kS := hf.keep gs _ 48 hgs (by decide) (by decide) (by decide) (fun e => by obtain rfl : g = gs := (by simpa [Value.ownBlock] using e); exact cells_ne hgs hcN (by decide) rfl)
  have sub : ∀ b ∈ cur, b ∈ bs := by
    rcases hw with ⟨_, rfl, _⟩ | ⟨_, last, hl, rfl, _⟩
    · exact fun b hb => hb
    · exact fun b hb => (swapOut_perm hpos hl).mem_iff.2 (List.mem_cons_of_mem _ hb)
  have hv : v'.ownBlock = some g := by
    rcases hw with ⟨_, _, _, rfl⟩ | ⟨_, last, hl, _, _, gq, capq, hv, rfl⟩
    · rfl
    · simp at hv; obtain ⟨rfl, _⟩ := hv; rfl
  exact ⟨hf.t3, hf.row, hf.at', hf.node, fun b hb => (hm.st.runs b hb).nm2, hf.slots, hf.cM, hf.map, hf.tree, hf.perm, sub, hm.nls, kN.trans hm.bN, kS.trans hgs, ⟨cc, kc.trans hcc⟩, hgn, by rw [hv]; simpa using hgg, hm.low.trans hf.low⟩
end Go.Proofs.Ybulkbhqs
