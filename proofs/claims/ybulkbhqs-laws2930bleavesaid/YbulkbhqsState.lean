/-
  What the law's build loop keeps: the runs, their treaps, the map. Own work on this program.
-/
import Derived.Test.YbulkbhqsLeave3
import Derived.Test.YbulkbhqsNew
namespace Go.Proofs.Ybulkbhqs
open Go.RowKit
set_option linter.unusedVariables false

/-- Block b is a run of the transaction, placed. -/
structure RunIs (ky nm : Nat → Nat) (hd : Nat → Int) (T : Nat) (tb : Nat → Option Nat) (W : World) (b : Nat) : Prop where
  node : NodeOk ky W b
  nm2 : nm b < 2
  c0 : W.cell? ⟨b, 0, none⟩ = some (.pointer (some ⟨T, 0, none⟩))
  c1 : W.cell? ⟨b, 1, none⟩ = some (.string (nms (nm b)))
  c12 : W.cell? ⟨b, 12, none⟩ = some (.int .i64 (hd b))
  h1 : 1 ≤ hd b
  h3 : hd b ≤ 3
  c13 : W.cell? ⟨b, 13, none⟩ = some (.slice none 0 0)
  of : ∃ t, tb (nm b) = some t ∧ W.cell? ⟨b, 21, none⟩ = some (.pointer (some ⟨t, 0, none⟩))

/-- The treap of one name. -/
def TreeIs (ky : Nat → Nat) (o : Option Nat) (l : List Nat) (W : World) : Prop := (o = none ∧ l = []) ∨ ∃ t root n, o = some t ∧ Boxed W t 90 (ptr (some root)) ∧ Tr ky W n (some root) l

structure St0 (ky nm : Nat → Nat) (hd : Nat → Int) (T M Rm B : Nat) (tb : Nat → Option Nat) (l : Nat → List Nat) (bs : List Nat) (W : World) : Prop where
  cM : W.cell? ⟨M, 5, none⟩ = some (.map (some Rm))
  bM : ∃ c, W.heap[M]? = some (.cells c 86 (0, 0))
  map : MapIs W Rm tb
  bT : ∃ c, W.heap[T]? = some (.cells c 50 (0, 0))
  nd : bs.Nodup
  runs : ∀ b ∈ bs, RunIs ky nm hd T tb W b
  at' : ∀ (i b : Nat), bs[i]? = some b → W.cell? ⟨b, 14, none⟩ = some (.int .i64 i)
  tree : ∀ ν, ν < 2 → TreeIs ky (tb ν) (l ν) W
  tbne : ∀ t, tb 0 = some t → tb 1 ≠ some t
  perm : ∀ ν, ν < 2 → (l ν).Perm (bs.filter (fun b => nm b = ν))
  geT : B ≤ T
  geM : B ≤ M
  geR : B ≤ Rm
  geb : ∀ b ∈ bs, B ≤ b
  get : ∀ ν t, tb ν = some t → B ≤ t

variable {ky nm : Nat → Nat} {hd : Nat → Int} {T M Rm B : Nat} {tb : Nat → Option Nat} {l : Nat → List Nat} {bs : List Nat} {W W' : World}

theorem St0.mem (h : St0 ky nm hd T M Rm B tb l bs W) {ν : Nat} (hν : ν < 2) {x : Nat} : x ∈ l ν ↔ x ∈ bs ∧ nm x = ν := by
  rw [(h.perm ν hν).mem_iff, List.mem_filter]; simp

theorem St0.lnd (h : St0 ky nm hd T M Rm B tb l bs W) {ν : Nat} (hν : ν < 2) : (l ν).Nodup := (h.perm ν hν).nodup_iff.2 (h.nd.filter _)

/-- All but the transaction's block and rows of pointers stand. -/
theorem St0.frame (h : St0 ky nm hd T M Rm B tb l bs W) (hk : ∀ (b : Nat) (c : Array Value) (e : TypeId), W.heap[b]? = some (.cells c e (0, 0)) → e ≠ 45 → e ≠ 50 → W'.heap[b]? = W.heap[b]?) (hm : W'.heap[Rm]? = W.heap[Rm]?)
    (hT : ∃ c, W'.heap[T]? = some (.cells c 50 (0, 0))) : St0 ky nm hd T M Rm B tb l bs W' := by
  have kb : ∀ b ∈ bs, W'.heap[b]? = W.heap[b]? := fun b hb => by
    obtain ⟨c, hc⟩ := (h.runs b hb).node.blkc
    exact hk b c 63 hc (by decide) (by decide)
  have kc : ∀ b ∈ bs, ∀ o, W'.cell? ⟨b, o, none⟩ = W.cell? ⟨b, o, none⟩ := fun b hb o => World.cell?_of_block (w := W) (a := ⟨b, o, none⟩) (kb b hb)
  obtain ⟨cM, hM⟩ := h.bM
  have eM := hk M cM 86 hM (by decide) (by decide)
  refine ⟨(World.cell?_of_block (w := W) (a := ⟨M, 5, none⟩) eM).trans h.cM, ⟨cM, eM.trans hM⟩, h.map.of_block hm, hT, h.nd, fun b hb => ?_, fun i b hb => (kc b (List.mem_of_getElem? hb) 14).trans (h.at' i b hb), fun ν hν => ?_, h.tbne, h.perm, h.geT, h.geM, h.geR, h.geb, h.get⟩
  · obtain ⟨n1, n2, c0, c1, c12, h1, h3, c13, t, ht, c21⟩ := h.runs b hb
    exact ⟨n1.of_block (kb b hb), n2, (kc b hb _).trans c0, (kc b hb _).trans c1, (kc b hb _).trans c12, h1, h3, (kc b hb _).trans c13, t, ht, (kc b hb _).trans c21⟩
  · rcases h.tree ν hν with e | ⟨t, root, n, ht, hbx, htr⟩
    · exact .inl e
    · exact .inr ⟨t, root, n, ht, (hk t _ 90 hbx (by decide) (by decide)).trans hbx, htr.of_blocks (fun x hx => kb x ((h.mem hν).1 hx).1)⟩

/-- The ghosts may turn where no run is. -/
theorem St0.congr (h : St0 ky nm hd T M Rm B tb l bs W) {ky' nm' : Nat → Nat} {hd' : Nat → Int} (e1 : ∀ b ∈ bs, ky' b = ky b) (e2 : ∀ b ∈ bs, nm' b = nm b) (e3 : ∀ b ∈ bs, hd' b = hd b) : St0 ky' nm' hd' T M Rm B tb l bs W := by
  refine ⟨h.cM, h.bM, h.map, h.bT, h.nd, fun b hb => ?_, h.at', fun ν hν => ?_, h.tbne, fun ν hν => ?_, h.geT, h.geM, h.geR, h.geb, h.get⟩
  · obtain ⟨n1, n2, c0, c1, c12, h1, h3, c13, t, ht, c21⟩ := h.runs b hb
    obtain ⟨m1, m2, m3, m4, m5, m6, m7, m8, m9, m10⟩ := n1
    refine ⟨⟨m1, by rw [e1 b hb]; exact m2, by rw [e1 b hb]; exact m3, m4, m5, m6, m7, m8, by rw [e1 b hb]; exact m9, m10⟩, by rw [e2 b hb]; exact n2, c0, by rw [e2 b hb]; exact c1, by rw [e3 b hb]; exact c12, by rw [e3 b hb]; exact h1, by rw [e3 b hb]; exact h3, c13, t, by rw [e2 b hb]; exact ht, c21⟩
  · rcases h.tree ν hν with e | ⟨t, root, n, ht, hbx, htr⟩
    · exact .inl e
    · exact .inr ⟨t, root, n, ht, hbx, htr.congr (fun x hx => e1 x ((h.mem hν).1 hx).1)⟩
  · have : bs.filter (fun b => decide (nm' b = ν)) = bs.filter (fun b => decide (nm b = ν)) := List.filter_congr (fun b hb => by rw [e2 b hb])
    rw [this]; exact h.perm ν hν

/-- One list of the two laid anew. -/
def updl (l : Nat → List Nat) (ν : Nat) (x : List Nat) : Nat → List Nat := fun i => if i = ν then x else l i

/-- A new run, laid but not placed. -/
structure FreshRun (ky nm : Nat → Nat) (hd : Nat → Int) (T r j : Nat) (W : World) : Prop where
  node : NodeOk ky W r
  nm2 : nm r < 2
  c0 : W.cell? ⟨r, 0, none⟩ = some (.pointer (some ⟨T, 0, none⟩))
  c1 : W.cell? ⟨r, 1, none⟩ = some (.string (nms (nm r)))
  c12 : W.cell? ⟨r, 12, none⟩ = some (.int .i64 (hd r))
  h1 : 1 ≤ hd r
  h3 : hd r ≤ 3
  c13 : W.cell? ⟨r, 13, none⟩ = some (.slice none 0 0)
  c14 : W.cell? ⟨r, 14, none⟩ = some (.int .i64 j)
  c21 : W.cell? ⟨r, 21, none⟩ = some (.pointer none)
  c22 : W.cell? ⟨r, 22, none⟩ = some (.pointer none)
  c23 : W.cell? ⟨r, 23, none⟩ = some (.pointer none)

theorem St0.place (h : St0 ky nm hd T M Rm B tb l bs W) {r : Nat} (f : FreshRun ky nm hd T r bs.length W) (hr : r ∉ bs) (hB : B ≤ r) (p : Placed ky Rm r (nm r) tb (l (nm r)) W W') (hBW : B ≤ W.heap.size) :
    ∃ tb' l', St0 ky nm hd T M Rm B tb' l' (bs ++ [r]) W' ∧ (∀ (b : Nat) (c : Array Value) (e : TypeId), W.heap[b]? = some (.cells c e (0, 0)) → e ≠ 63 → e ≠ 90 → W'.heap[b]? = W.heap[b]?) ∧ Below B W W' := by
  obtain ⟨⟨t, root, n, l1, l2, htb, htlt, hbx, hl, htr, hmap, c21, kept⟩, nodes, stat, of⟩ := p
  have hν := f.nm2
  obtain ⟨cr, hcr⟩ := f.node.blkc
  have tnew : ∀ (b : Nat) (c : Array Value) (e : TypeId), W.heap[b]? = some (.cells c e (0, 0)) → e ≠ 90 → b ≠ t := by
    intro b c e hb he
    rcases htb with ht | ⟨_, ht⟩
    · rcases h.tree (nm r) hν with ⟨e0, _⟩ | ⟨t0, _, _, e0, hb0, _⟩
      · rw [ht] at e0; cases e0
      · rw [ht] at e0; cases e0; exact cells_ne hb hb0 he
    · have := (Array.getElem?_eq_some_iff.1 hb).1; omega
  have lblk : ∀ x ∈ l (nm r), ∃ c, W.heap[x]? = some (.cells c 63 (0, 0)) := fun x hx => (h.runs x ((h.mem hν).1 hx).1).node.blkc
  have keep : ∀ (b : Nat) (c : Array Value) (e : TypeId), W.heap[b]? = some (.cells c e (0, 0)) → e ≠ 63 → e ≠ 90 → W'.heap[b]? = W.heap[b]? := by
    intro b c e hb h63 h90
    refine kept.blk b (Array.getElem?_eq_some_iff.1 hb).1 ?_
    simp only [List.mem_cons, not_or]
    refine ⟨cells_ne hb hcr h63, Ne.symm (h.map.not_cells hb), tnew b c e hb h90, fun hx => ?_⟩
    obtain ⟨c', hc'⟩ := lblk b hx
    exact cells_ne hb hc' h63 rfl
  have far : ∀ b ∈ bs, nm b ≠ nm r → W'.heap[b]? = W.heap[b]? := by
    intro b hb hne
    obtain ⟨c, hc⟩ := (h.runs b hb).node.blkc
    refine kept.blk b (Array.getElem?_eq_some_iff.1 hc).1 ?_
    simp only [List.mem_cons, not_or]
    exact ⟨fun e => hr (e ▸ hb), Ne.symm (h.map.not_cells hc), tnew b c 63 hc (by decide), fun hx => hne ((h.mem hν).1 hx).2⟩
  have cst : ∀ b ∈ bs, ∀ o, o ≠ 22 → o ≠ 23 → o ≠ 25 → W'.cell? ⟨b, o, none⟩ = W.cell? ⟨b, o, none⟩ := by
    intro b hb o h2 h3 h5
    by_cases e : nm b = nm r
    · have hbl : b ∈ l (nm r) := (h.mem hν).2 ⟨hb, e⟩
      by_cases e21 : o = 21
      · subst e21; exact of b hbl
      · exact stat b (List.mem_cons_of_mem _ hbl) o e21 h2 h3 h5
    · exact World.cell?_of_block (w := W) (a := ⟨b, o, none⟩) (far b hb e)
  have nst : ∀ b ∈ bs, NodeOk ky W' b := by
    intro b hb
    by_cases e : nm b = nm r
    · exact nodes b (List.mem_cons_of_mem _ ((h.mem hν).2 ⟨hb, e⟩))
    · exact (h.runs b hb).node.of_block (far b hb e)
  have rst : ∀ o, o ≠ 21 → o ≠ 22 → o ≠ 23 → o ≠ 25 → W'.cell? ⟨r, o, none⟩ = W.cell? ⟨r, o, none⟩ := stat r (by simp)
  obtain ⟨cM, hM⟩ := h.bM
  obtain ⟨cT, hT⟩ := h.bT
  have eM := keep M cM 86 hM (by decide) (by decide)
  have eT := keep T cT 50 hT (by decide) (by decide)
  have hgt : B ≤ t := by
    rcases htb with ht | ⟨_, ht⟩
    · exact h.get _ _ ht
    · omega
  have hother : ∀ μ t', μ < 2 → μ ≠ nm r → tb μ = some t' → t' ≠ t := by
    intro μ t' hμ hne e
    rcases htb with ht | ⟨_, ht⟩
    · rintro rfl
      have : (μ = 0 ∧ nm r = 1) ∨ (μ = 1 ∧ nm r = 0) := by omega
      rcases this with ⟨rfl, e2⟩ | ⟨rfl, e2⟩
      · rw [e2] at ht; exact h.tbne _ e ht
      · rw [e2] at ht; exact h.tbne _ ht e
    · rcases h.tree μ hμ with ⟨e0, _⟩ | ⟨t0, _, _, e0, hb0, _⟩
      · rw [e] at e0; cases e0
      · rw [e] at e0; cases e0; have := hb0.lt; omega
  refine ⟨upd tb (nm r) (some t), updl l (nm r) (l1 ++ r :: l2), ⟨(World.cell?_of_block (w := W) (a := ⟨M, 5, none⟩) eM).trans h.cM, ⟨cM, eM.trans hM⟩, hmap, ⟨cT, eT.trans hT⟩, ?_, ?_, ?_, ?_, ?_, ?_, h.geT, h.geM, h.geR, ?_, ?_⟩, keep, ?_⟩
  · rw [List.nodup_append]; exact ⟨h.nd, by simp, fun x hx y hy e => by simp at hy; subst hy; exact hr (e ▸ hx)⟩
  · intro b hb
    rcases List.mem_append.1 hb with hb | hb
    · obtain ⟨n1, n2, c0, c1, c12, h1, h3, c13, t0, ht0, c210⟩ := h.runs b hb
      refine ⟨nst b hb, n2, (cst b hb 0 (by omega) (by omega) (by omega)).trans c0, (cst b hb 1 (by omega) (by omega) (by omega)).trans c1, (cst b hb 12 (by omega) (by omega) (by omega)).trans c12, h1, h3, (cst b hb 13 (by omega) (by omega) (by omega)).trans c13, t0, ?_, (cst b hb 21 (by omega) (by omega) (by omega)).trans c210⟩
      by_cases e : nm b = nm r
      · rw [e] at ht0 ⊢
        rcases htb with ht | ⟨ht, _⟩
        · rw [ht] at ht0; simp [upd, ht0]
        · rw [ht] at ht0; cases ht0
      · simp [upd, e, ht0]
    · simp at hb
      subst hb
      exact ⟨nodes b (by simp), f.nm2, (rst 0 (by omega) (by omega) (by omega) (by omega)).trans f.c0, (rst 1 (by omega) (by omega) (by omega) (by omega)).trans f.c1, (rst 12 (by omega) (by omega) (by omega) (by omega)).trans f.c12, f.h1, f.h3, (rst 13 (by omega) (by omega) (by omega) (by omega)).trans f.c13, t, by simp [upd], c21⟩
  · intro i b hb
    by_cases hi : i < bs.length
    · rw [List.getElem?_append_left hi] at hb
      exact (cst b (List.mem_of_getElem? hb) 14 (by omega) (by omega) (by omega)).trans (h.at' i b hb)
    · rw [List.getElem?_append_right (by omega)] at hb
      have e : i - bs.length = 0 := by
        have := (List.getElem?_eq_some_iff.1 hb).1; simp at this; omega
      rw [e] at hb
      simp at hb
      subst hb
      rw [show i = bs.length from by omega]
      exact (rst 14 (by omega) (by omega) (by omega) (by omega)).trans f.c14
  · intro μ hμ
    by_cases e : μ = nm r
    · subst e
      simp only [upd, updl, if_true]
      exact .inr ⟨t, root, n, rfl, hbx, htr⟩
    · simp only [upd, updl, if_neg e]
      rcases h.tree μ hμ with e0 | ⟨t0, root0, n0, e0, hb0, htr0⟩
      · exact .inl e0
      · refine .inr ⟨t0, root0, n0, e0, ?_, htr0.of_blocks (fun x hx => far x ((h.mem hμ).1 hx).1 (by rw [((h.mem hμ).1 hx).2]; exact e))⟩
        refine (kept.blk t0 hb0.lt ?_).trans hb0
        simp only [List.mem_cons, not_or]
        refine ⟨cells_ne hb0 hcr (by decide), Ne.symm (h.map.not_cells hb0), hother μ t0 hμ e e0, fun hx => ?_⟩
        obtain ⟨c', hc'⟩ := lblk t0 hx
        exact cells_ne hb0 hc' (by decide) rfl
  · intro t' e0 e1
    simp only [upd] at e0 e1
    have : nm r = 0 ∨ nm r = 1 := by omega
    rcases this with e | e
    · rw [e] at e0 e1; simp at e0 e1
      subst e0
      exact hother 1 t (by omega) (by omega) e1 rfl
    · rw [e] at e0 e1; simp at e0 e1
      subst e1
      exact hother 0 t (by omega) (by omega) e0 rfl
  · intro μ hμ
    rw [List.filter_append]
    by_cases e : μ = nm r
    · subst e
      simp only [updl, if_true]
      have hp := h.perm (nm r) hν
      rw [hl] at hp
      have e2 : [r].filter (fun b => decide (nm b = nm r)) = [r] := by simp
      rw [e2]
      exact (List.perm_middle.trans (hp.cons r)).trans (List.perm_append_singleton r _).symm
    · simp only [updl, if_neg e]
      have e2 : [r].filter (fun b => decide (nm b = μ)) = [] := by simp [Ne.symm e]
      rw [e2, List.append_nil]
      exact h.perm μ hμ
  · intro b hb
    rcases List.mem_append.1 hb with hb | hb
    · exact h.geb b hb
    · simp at hb; subst hb; exact hB
  · intro μ t' e
    simp only [upd] at e
    split at e
    · cases e; exact hgt
    · exact h.get μ t' e
  · refine ⟨kept.os, kept.tape, kept.output, kept.size, fun b hb => kept.blk b (by omega) ?_⟩
    simp only [List.mem_cons, not_or]
    have := h.geR
    exact ⟨by omega, by omega, by omega, fun hx => by have := h.geb b ((h.mem hν).1 hx).1; omega⟩

theorem place_st (h : St0 ky nm hd T M Rm B tb l bs W) {r : Nat} (f : FreshRun ky nm hd T r bs.length W) (hr : r ∉ bs) :
    Calls Yba.prog 10 #[.pointer (some ⟨M, 0, none⟩), .pointer (some ⟨r, 0, none⟩)] W fun e W' => e = .returned (.tuple #[]) ∧ Placed ky Rm r (nm r) tb (l (nm r)) W W' := by
  have hν := f.nm2
  obtain ⟨cM, hM⟩ := h.bM
  obtain ⟨cr, hcr⟩ := f.node.blkc
  rcases h.tree (nm r) hν with ⟨e, el⟩ | ⟨t, root, n, e, hbx, htr⟩
  · rw [el]
    exact place_new ky M Rm r (nm r) tb W h.cM (cells_ne hM hcr (by decide)) h.map hν f.c1 f.c21 f.node f.c22 f.c23 e
  · refine place_old ky M Rm r (nm r) t n (some root) tb (l (nm r)) W h.cM h.map hν f.c1 f.c21 ?_ f.c22 f.c23 e hbx htr ?_
    · intro x hx
      rcases List.mem_cons.1 hx with rfl | hx
      · exact f.node
      · exact (h.runs x ((h.mem hν).1 hx).1).node
    · exact List.nodup_cons.2 ⟨fun hx => hr ((h.mem hν).1 hx).1, h.lnd hν⟩

/-- What stands at the head of a round of the law's build loop. -/
structure BInv (w : World) (xs : Array Value) (j : Nat) (sm : Int) (ky nm : Nat → Nat) (hd : Nat → Int) (tb : Nat → Option Nat) (l : Nat → List Nat) (bs : List Nat) (v : Value) (W : World) : Prop where
  st : St0 ky nm hd (w.heap.size + 9) (w.heap.size + 8) (w.heap.size + 7) w.heap.size tb l bs W
  len : bs.length = j
  t3 : W.cell? ⟨w.heap.size + 9, 3, none⟩ = some v
  row : W.ownsRow w.heap.size 45 1 v bs.length (ptrs bs)
  t4 : W.cell? ⟨w.heap.size + 9, 4, none⟩ = some (.int .i64 0)
  slots : ∀ i, i < 4 → SlotIs W (w.heap.size + 9) 13 nm (fun _ => none) i
  bX : W.heap[w.heap.size]? = some (.cells xs 33 (0, 0))
  bN : W.heap[w.heap.size + 1]? = some (.cells #[.string (nms 0), .string (nms 1)] 34 (0, 0))
  bK : W.heap[w.heap.size + 2]? = some (.cells #[.string (ks 0), .string (ks 1), .string (ks 2), .string (ks 3)] 35 (0, 0))
  low : Below w.heap.size w W
  sm0 : 0 ≤ sm
  sm1 : sm ≤ 3 * (j : Int)
end Go.Proofs.Ybulkbhqs
