/-
  What stands behind 'leave': one form for both ways. Own work on this program.
-/
import Derived.Test.YbulkbhqsMid
namespace Go.Proofs.Ybulkbhqs
open Go.RowKit
set_option linter.unusedVariables false

variable {w : World} {xs : Array Value} {j : Nat} {sm : Int} {ky nm : Nat → Nat} {hd : Nat → Int} {tb : Nat → Option Nat} {l : Nat → List Nat} {bs : List Nat} {v : Value} {nl : Nat → Option Nat} {W W' : World}

/-- What 'leave' asks, out of what the law has built. -/
theorem MInv.pre (h : MInv w xs sm ky nm hd tb l bs v nl W) {pos r : Nat} (hpos : bs[pos]? = some r) (hlen : bs.length ≤ 1024) (s0 : 0 ≤ sm) (s1 : sm ≤ 4096) :
    ∃ t n root, LPre ky nm (w.heap.size + 8) (w.heap.size + 9) (w.heap.size + 7) r (nm r) t n w.heap.size pos (hd r) sm (some root) tb nl (l (nm r)) bs v W := by
  have hm : r ∈ bs := List.mem_of_getElem? hpos
  have hr := h.st.runs r hm
  obtain ⟨t0, ht0, hof⟩ := hr.of
  rcases h.st.tree (nm r) hr.nm2 with ⟨e, _⟩ | ⟨t, root, n, e, hbx, htr⟩
  · rw [e] at ht0; cases ht0
  · rw [e] at ht0
    obtain rfl : t = t0 := Option.some.inj ht0
    refine ⟨t, n, root, h.st.cM, h.st.bM, h.st.map, hr.nm2, hr.c1, hof, fun x hx => (h.st.runs x ((h.st.mem hr.nm2).1 hx).1).node, (h.st.mem hr.nm2).2 ⟨hm, rfl⟩, e, hbx, htr, h.st.lnd hr.nm2, hr.c0, hr.c12, hr.c13, hr.h1, hr.h3, h.st.at' pos r hpos, h.st.bT, h.t4, s0, s1, h.t3, h.row, hpos, hlen, ?_, h.slots, ?_⟩
    · intro x hx
      obtain ⟨i, hi⟩ := List.getElem?_of_mem hx
      exact ⟨(h.st.runs x hx).node, i, h.st.at' i x hi⟩
    · intro i hi b hb
      have := h.nls i hi b hb
      exact ⟨(h.st.runs b this).nm2, (h.st.runs b this).node⟩

/-- The swap, as a permutation. -/
theorem swapOut_perm {cur : List Nat} {pos r last : Nat} (hpos : cur[pos]? = some r) (hlast : cur[cur.length - 1]? = some last) : cur.Perm (r :: swapOut cur pos last) := by
  have hp : pos < cur.length := (List.getElem?_eq_some_iff.1 hpos).1
  have hne : cur ≠ [] := by intro e; subst e; simp at hp
  obtain ⟨A, z, rfl⟩ : ∃ A z, cur = A ++ [z] := ⟨cur.dropLast, cur.getLast hne, (List.dropLast_concat_getLast hne).symm⟩
  have hz : z = last := by simpa using hlast
  subst hz
  unfold swapOut
  by_cases e : pos < A.length
  · have hA : A[pos]? = some r := by rw [List.getElem?_append_left e] at hpos; exact hpos
    rw [List.set_append_left _ _ e, List.dropLast_concat]
    have h1 : A = A.take pos ++ r :: A.drop (pos + 1) := by
      have h2 := List.take_append_drop pos A
      rw [List.drop_eq_getElem_cons e] at h2
      have h3 : A[pos] = r := by have := List.getElem?_eq_getElem e; rw [hA] at this; exact (Option.some.inj this).symm
      rw [h3] at h2
      exact h2.symm
    have h4 : A.set pos z = A.take pos ++ z :: A.drop (pos + 1) := by
      rw [List.set_eq_take_append_cons_drop, if_pos e]
    rw [h4]
    conv => lhs; rw [h1]
    rw [List.append_assoc]
    refine (List.perm_middle).trans (List.Perm.cons r ?_)
    have : (A.take pos ++ (A.drop (pos + 1) ++ [z])).Perm (A.take pos ++ (z :: A.drop (pos + 1))) := List.Perm.append_left _ (List.perm_append_singleton z _)
    simpa using this
  · have hpe : pos = A.length := by simp at hp; omega
    subst hpe
    have hr : z = r := by simpa using hpos
    subst hr
    rw [List.set_append_right _ _ (Nat.le_refl _)]
    simp

/-- Behind 'leave': what the law's checks read. -/
structure Fin (w : World) (ky nm : Nat → Nat) (r idx : Nat) (h s : Int) (bs cur' : List Nat) (nl' tb' : Nat → Option Nat) (l' : Nat → List Nat) (v v' : Value) (W W' : World) : Prop where
  c13 : ∃ g cap, W'.cell? ⟨r, 13, none⟩ = some (.slice (some ⟨g, 0, none⟩) (idx / 64 + 1) cap) ∧ W'.ownsRow W.heap.size 39 1 (.slice (some ⟨g, 0, none⟩) (idx / 64 + 1) cap) (idx / 64 + 1) (words idx)
  c12 : W'.cell? ⟨r, 12, none⟩ = some (.int .i64 (h - 1))
  t4 : W'.cell? ⟨w.heap.size + 9, 4, none⟩ = some (.int .i64 (s - 1))
  t3 : W'.cell? ⟨w.heap.size + 9, 3, none⟩ = some v'
  row : W'.ownsRow w.heap.size 45 1 v' cur'.length (ptrs cur')
  at' : ∀ (i b : Nat), cur'[i]? = some b → W'.cell? ⟨b, 14, none⟩ = some (.int .i64 i)
  node : ∀ b ∈ bs, NodeOk ky W' b ∧ W'.cell? ⟨b, 1, none⟩ = some (.string (nms (nm b)))
  slots : ∀ i, i < 4 → SlotIs W' (w.heap.size + 9) 13 nm nl' i
  cM : W'.cell? ⟨w.heap.size + 8, 5, none⟩ = some (.map (some (w.heap.size + 7)))
  map : MapIs W' (w.heap.size + 7) tb'
  tree : ∀ ν, ν < 2 → TreeIs ky (tb' ν) (l' ν) W'
  perm : ∀ ν, ν < 2 → (l' ν).Perm (cur'.filter (fun b => nm b = ν))
  keep : ∀ (b : Nat) (c : Array Value) (e : TypeId), W.heap[b]? = some (.cells c e (0, 0)) → e ≠ 63 → e ≠ 90 → e ≠ 50 → v.ownBlock ≠ some b → W'.heap[b]? = W.heap[b]?
  low : Below w.heap.size W W'

/-- Behind the head of 'leave': every run's cells but 'held' and 'gone' of the one. -/
theorem head_cells (h : MInv w xs sm ky nm hd tb l bs v nl W) {r g cap idx : Nat} {hh s : Int} {W1 : World} (hr : r ∈ bs) (d : Headed ky r (w.heap.size + 9) g cap idx hh s W W1) :
    (∀ b ∈ bs, NodeOk ky W1 b ∧ ∀ o, o ≠ 12 → o ≠ 13 → W1.cell? ⟨b, o, none⟩ = W.cell? ⟨b, o, none⟩) ∧ (∀ (b : Nat) (c : Array Value) (e : TypeId), W.heap[b]? = some (.cells c e (0, 0)) → e ≠ 63 → e ≠ 50 → W1.heap[b]? = W.heap[b]?) ∧ W1.heap[w.heap.size + 7]? = W.heap[w.heap.size + 7]? := by
  obtain ⟨cT, hT⟩ := h.st.bT
  obtain ⟨cr, hcr⟩ := (h.st.runs r hr).node.blkc
  have k : ∀ b, b < W.heap.size → b ≠ r → b ≠ w.heap.size + 9 → W1.heap[b]? = W.heap[b]? := fun b hb h1 h2 => d.kept.blk b hb (by simp [h1, h2])
  refine ⟨fun b hb => ?_, fun b c e hb h1 h2 => k b (Array.getElem?_eq_some_iff.1 hb).1 (cells_ne hb hcr h1) (cells_ne hb hT h2), ?_⟩
  · by_cases e : b = r
    · subst e; exact ⟨d.node, d.roth⟩
    · have hN := (h.st.runs b hb).node
      obtain ⟨c, hc⟩ := hN.blkc
      have e2 := k b (Array.getElem?_eq_some_iff.1 hc).1 e (cells_ne hc hT (by decide))
      exact ⟨hN.of_block e2, fun o _ _ => World.cell?_of_block (w := W) (a := ⟨b, o, none⟩) e2⟩
  · obtain ⟨es, clock, hm, _⟩ := h.st.map
    exact k _ (Array.getElem?_eq_some_iff.1 hm).1 (h.st.map.not_cells hcr) (by omega)

theorem below_of_kept {B : Nat} {S : List Nat} {A C : World} (h : Kept S A C) (hB : B ≤ A.heap.size) (hs : ∀ x ∈ S, B ≤ x) : Below B A C :=
  ⟨h.os, h.tape, h.output, h.size, fun b hb => h.blk b (by omega) (fun m => by have := hs b m; omega)⟩

/-- 'leave' where the run holds more. -/
theorem fin_keep (h : MInv w xs sm ky nm hd tb l bs v nl W) {pos r idx g cap : Nat} {W1 : World} (hr : r ∈ bs) (d : Headed ky r (w.heap.size + 9) g cap idx (hd r) sm W W1) :
    Fin w ky nm r idx (hd r) sm bs bs nl tb l v v W W1 := by
  obtain ⟨hc, hk, hm⟩ := head_cells h hr d
  obtain ⟨cM, hM⟩ := h.st.bM
  have eM := hk _ _ _ hM (by decide) (by decide)
  have hwl := h.low.size
  refine ⟨⟨g, cap, d.c13, d.row⟩, d.c12, d.t4, (d.toth 3 (by omega)).trans h.t3, owns_of_block h.row (fun g' e => ?_), fun i b hb => ((hc b (List.mem_of_getElem? hb)).2 14 (by omega) (by omega)).trans (h.st.at' i b hb), fun b hb => ⟨(hc b hb).1, ((hc b hb).2 1 (by omega) (by omega)).trans (h.st.runs b hb).c1⟩, fun i hi => ?_,
    (World.cell?_of_block (w := W) (a := ⟨_, 5, none⟩) eM).trans h.st.cM, h.st.map.of_block hm, fun ν hν => ?_, h.st.perm, fun b c e hb h1 _ h2 _ => hk b c e hb h1 h2, below_of_kept d.kept hwl (fun x hx => ?_)⟩
  · obtain ⟨c, hc⟩ := row_blk h.row e
    exact hk g' c 45 hc (by decide) (by decide)
  · obtain ⟨s1, s2, s3⟩ := h.slots i hi
    exact ⟨(d.toth _ (by omega)).trans s1, (d.toth _ (by omega)).trans s2, (d.toth _ (by omega)).trans s3⟩
  · rcases h.st.tree ν hν with e | ⟨t, root, n, e, hbx, htr⟩
    · exact .inl e
    · exact .inr ⟨t, root, n, e, (hk t _ 90 hbx (by decide) (by decide)).trans hbx, htr.same (fun x hx => ⟨(hc x ((h.st.mem hν).1 hx).1).2 22 (by omega) (by omega), (hc x ((h.st.mem hν).1 hx).1).2 23 (by omega) (by omega)⟩)⟩
  · simp at hx
    rcases hx with rfl | rfl
    · exact h.st.geb x hr
    · exact h.st.geT

/-- 'leave' where the run held its last lock. -/
theorem fin_drop (h : MInv w xs sm ky nm hd tb l bs v nl W) {pos r idx g cap t n last gq capq : Nat} {root : Option Nat} {nl' : Nat → Option Nat} {W1 W2 W' : World} (hpos : bs[pos]? = some r)
    (p : LPre ky nm (w.heap.size + 8) (w.heap.size + 9) (w.heap.size + 7) r (nm r) t n w.heap.size pos (hd r) sm root tb nl (l (nm r)) bs v W)
    (d : Headed ky r (w.heap.size + 9) g cap idx (hd r) sm W W1) (f : Forgot ky (w.heap.size + 7) r (nm r) t tb (l (nm r)) W1 W2) (hlast : bs[bs.length - 1]? = some last) (hv : v = .slice (some ⟨gq, 0, none⟩) bs.length capq)
    (c : LCore nm (w.heap.size + 9) w.heap.size pos last gq capq nl' bs W2 W') :
    ∃ tb' l', Fin w ky nm r idx (hd r) sm bs (swapOut bs pos last) nl' tb' l' v (.slice (some ⟨gq, 0, none⟩) (bs.length - 1) capq) W W' := by
  have hr : r ∈ bs := List.mem_of_getElem? hpos
  have hlm : last ∈ bs := List.mem_of_getElem? hlast
  have hν := (h.st.runs r hr).nm2
  obtain ⟨hc1, hk1, hm1⟩ := head_cells h hr d
  have mid := mid_of_head p d
  have aft := aft_of_forgot mid f p.hr
  obtain ⟨cT, hT⟩ := aft.bT
  obtain ⟨cT1, hT1⟩ := mid.bT
  have hrow2 := aft.row
  rw [hv] at hrow2
  obtain ⟨cg, hcg⟩ := row_blk hrow2 rfl
  -- the third step, block by block
  have k3 : ∀ b, b < W2.heap.size → b ≠ gq → b ≠ last → b ≠ w.heap.size + 9 → W'.heap[b]? = W2.heap[b]? := fun b hb h1 h2 h3 => c.kept.blk b hb (by simp [h1, h2, h3])
  have hN2 : ∀ b ∈ bs, NodeOk ky W2 b ∧ ∀ o, o ≠ 22 → o ≠ 23 → o ≠ 25 → W2.cell? ⟨b, o, none⟩ = W1.cell? ⟨b, o, none⟩ := fun b hb => f.node mid (hc1 b hb).1
  have run3 : ∀ b ∈ bs, ∀ o, (b = last → o ≠ 14) → W'.cell? ⟨b, o, none⟩ = W2.cell? ⟨b, o, none⟩ := by
    intro b hb o ho
    by_cases e : b = last
    · subst e; exact c.lo o (ho rfl)
    · obtain ⟨cb, hcb⟩ := (hN2 b hb).1.blkc
      exact World.cell?_of_block (w := W2) (a := ⟨b, o, none⟩) (k3 b (Array.getElem?_eq_some_iff.1 hcb).1 (Ne.symm (cells_ne hcg hcb (by decide))) e (Ne.symm (cells_ne hT hcb (by decide))))
  have nod3 : ∀ b ∈ bs, NodeOk ky W' b := by
    intro b hb
    have N := (hN2 b hb).1
    by_cases e : b = last
    · have q : ∀ o, o ≠ 14 → W'.cell? ⟨b, o, none⟩ = W2.cell? ⟨b, o, none⟩ := fun o ho => run3 b hb o (fun _ => ho)
      obtain ⟨⟨dd, h1⟩, h2, h3, ⟨pl, hl⟩, ⟨pr, hr'⟩, ⟨pp, h4⟩, ⟨ss, h5⟩, h6, h7, hx⟩ := N
      obtain ⟨cx, hcx⟩ := c.c63 b hx
      exact ⟨⟨dd, (q _ (by omega)).trans h1⟩, (q _ (by omega)).trans h2, (q _ (by omega)).trans h3, ⟨pl, (q _ (by omega)).trans hl⟩, ⟨pr, (q _ (by omega)).trans hr'⟩, ⟨pp, (q _ (by omega)).trans h4⟩, ⟨ss, (q _ (by omega)).trans h5⟩, fun o => by simp [World.frozen?, hcx], h7, cx, hcx⟩
    · obtain ⟨cb, hcb⟩ := N.blkc
      exact N.of_block (k3 b (Array.getElem?_eq_some_iff.1 hcb).1 (Ne.symm (cells_ne hcg hcb (by decide))) e (Ne.symm (cells_ne hT hcb (by decide))))
  obtain ⟨cl, hcl⟩ := (hN2 last hlm).1.blkc
  have oth3 : ∀ (b : Nat) (cb : Array Value) (e : TypeId), W2.heap[b]? = some (.cells cb e (0, 0)) → e ≠ 63 → e ≠ 50 → b ≠ gq → W'.heap[b]? = W2.heap[b]? := fun b cb e hb h1 h2 h3 => k3 b (Array.getElem?_eq_some_iff.1 hb).1 h3 (cells_ne hb hcl h1) (cells_ne hb hT h2)
  have keep : ∀ (b : Nat) (cb : Array Value) (e : TypeId), W.heap[b]? = some (.cells cb e (0, 0)) → e ≠ 63 → e ≠ 90 → e ≠ 50 → v.ownBlock ≠ some b → W'.heap[b]? = W.heap[b]? := by
    intro b cb e hb h1 h2 h3 h4
    have a1 := hk1 b cb e hb h1 h3
    have a2 := f.other mid (a1.trans hb) h1 h2
    exact (oth3 b cb e (a2.trans (a1.trans hb)) h1 h3 (fun e => h4 (by rw [hv, e]; rfl))).trans (a2.trans a1)
  obtain ⟨cM, hM⟩ := h.st.bM
  have eM := keep _ _ _ hM (by decide) (by decide) (by decide) (fun e => by obtain ⟨c', hc'⟩ := row_blk h.row e; exact cells_ne hM hc' (by decide) rfl)
  have hmapblk : ∀ tb', MapIs W2 (w.heap.size + 7) tb' → MapIs W' (w.heap.size + 7) tb' := by
    intro tb' hm
    have h1 := hm.not_cells hcg
    have h2 := hm.not_cells hcl
    have h3 := hm.not_cells hT
    refine hm.of_block ?_
    obtain ⟨es, clock, hmm, _⟩ := hm
    exact k3 _ (Array.getElem?_eq_some_iff.1 hmm).1 h1 h2 h3
  have hperm := swapOut_perm hpos hlast
  obtain ⟨l1, l2, hl, htree⟩ := f.tree
  have hnd : (l (nm r)).Nodup := h.st.lnd hν
  have hfp : ∀ ν, (bs.filter (fun b => decide (nm b = ν))).Perm ((r :: swapOut bs pos last).filter (fun b => decide (nm b = ν))) := fun ν => hperm.filter _
  have permr : (l1 ++ l2).Perm ((swapOut bs pos last).filter (fun b => decide (nm b = nm r))) := by
    have h1 := (h.st.perm (nm r) hν).trans (hfp (nm r))
    rw [hl, List.filter_cons_of_pos (by simp)] at h1
    exact (List.perm_middle.symm.trans h1).cons_inv
  have permo : ∀ ν, ν < 2 → ν ≠ nm r → (l ν).Perm ((swapOut bs pos last).filter (fun b => decide (nm b = ν))) := by
    intro ν h2 hne
    have h1 := (h.st.perm ν h2).trans (hfp ν)
    rw [List.filter_cons_of_neg (by simp [Ne.symm hne])] at h1
    exact h1
  have treeo : ∀ ν, ν < 2 → ν ≠ nm r → TreeIs ky (tb ν) (l ν) W' := by
    intro ν h2 hne
    rcases h.st.tree ν h2 with e | ⟨t', root', n', e, hbx, htr⟩
    · exact .inl e
    · have hb1 := (hk1 t' _ 90 hbx (by decide) (by decide)).trans hbx
      have htt : t' ≠ t := by
        rintro rfl
        have : (ν = 0 ∧ nm r = 1) ∨ (ν = 1 ∧ nm r = 0) := by omega
        rcases this with ⟨rfl, e2⟩ | ⟨rfl, e2⟩
        · have := p.ht; rw [e2] at this; exact h.st.tbne _ e this
        · have := p.ht; rw [e2] at this; exact h.st.tbne _ this e
      have hb2 : Boxed W2 t' 90 (ptr (some root')) := by
        refine (f.kept.blk t' (Array.getElem?_eq_some_iff.1 hb1).1 ?_).trans hb1
        simp only [List.mem_cons, not_or]
        refine ⟨Ne.symm (mid.map.not_cells hb1), htt, fun m => ?_⟩
        obtain ⟨c', hc'⟩ := (mid.ok t' m).blkc
        exact cells_ne hb1 hc' (by decide) rfl
      refine .inr ⟨t', root', n', e, (oth3 t' _ 90 hb2 (by decide) (by decide) (Ne.symm (cells_ne hcg hb2 (by decide)))).trans hb2, ?_⟩
      refine htr.same (fun x hx => ?_)
      have hxb := ((h.st.mem h2).1 hx).1
      have hxn : x ∉ l (nm r) := fun m => hne (by rw [← ((h.st.mem h2).1 hx).2, ((h.st.mem hν).1 m).2])
      obtain ⟨cx, hcx⟩ := (hc1 x hxb).1.blkc
      have e2 : W2.heap[x]? = W1.heap[x]? := f.kept.blk x (Array.getElem?_eq_some_iff.1 hcx).1 (by
        simp only [List.mem_cons, not_or]
        exact ⟨Ne.symm (mid.map.not_cells hcx), cells_ne hcx mid.bx (by decide), hxn⟩)
      exact ⟨(run3 x hxb 22 (fun _ => by omega)).trans ((World.cell?_of_block (w := W1) (a := ⟨x, 22, none⟩) e2).trans ((hc1 x hxb).2 22 (by omega) (by omega))), (run3 x hxb 23 (fun _ => by omega)).trans ((World.cell?_of_block (w := W1) (a := ⟨x, 23, none⟩) e2).trans ((hc1 x hxb).2 23 (by omega) (by omega)))⟩
  have cell : ∀ b ∈ bs, ∀ o, o ≠ 12 → o ≠ 13 → o ≠ 22 → o ≠ 23 → o ≠ 25 → (b = last → o ≠ 14) → W'.cell? ⟨b, o, none⟩ = W.cell? ⟨b, o, none⟩ := fun b hb o a1 a2 a3 a4 a5 a6 => (run3 b hb o a6).trans (((hN2 b hb).2 o a3 a4 a5).trans ((hc1 b hb).2 o a1 a2))
  have rc : ∀ o, o ≠ 14 → o ≠ 22 → o ≠ 23 → o ≠ 25 → W'.cell? ⟨r, o, none⟩ = W1.cell? ⟨r, o, none⟩ := fun o a1 a2 a3 a4 => (run3 r hr o (fun _ => a1)).trans ((hN2 r hr).2 o a2 a3 a4)
  have hwl := h.low.size
  have lowW : Below w.heap.size W W' := by
    refine ((below_of_kept d.kept hwl (fun x hx => ?_)).trans (below_of_kept f.kept (Nat.le_trans hwl d.kept.size) (fun x hx => ?_))).trans (below_of_kept c.kept (Nat.le_trans hwl (Nat.le_trans d.kept.size f.kept.size)) (fun x hx => ?_))
    · simp at hx; rcases hx with rfl | rfl
      · exact h.st.geb x hr
      · exact h.st.geT
    · simp only [List.mem_cons] at hx
      rcases hx with rfl | rfl | hx
      · exact h.st.geR
      · exact h.st.get _ _ p.ht
      · exact h.st.geb x ((h.st.mem hν).1 hx).1
    · simp at hx; rcases hx with rfl | rfl | rfl
      · exact (hrow2.lt x rfl).1
      · exact h.st.geb x hlm
      · exact h.st.geT
  have hbl : (swapOut bs pos last).length = bs.length - 1 := by simp [swapOut]
  have cgone : ∃ g' cap', W'.cell? ⟨r, 13, none⟩ = some (.slice (some ⟨g', 0, none⟩) (idx / 64 + 1) cap') ∧ W'.ownsRow W.heap.size 39 1 (.slice (some ⟨g', 0, none⟩) (idx / 64 + 1) cap') (idx / 64 + 1) (words idx) := by
    refine ⟨g, cap, (rc 13 (by omega) (by omega) (by omega) (by omega)).trans d.c13, owns_of_block d.row (fun x e => ?_)⟩
    obtain ⟨cx, hcx⟩ := row_blk d.row e
    have a2 := f.other mid hcx (by decide) (by decide)
    exact (oth3 x cx 39 (a2.trans hcx) (by decide) (by decide) (Ne.symm (cells_ne hcg (a2.trans hcx) (by decide)))).trans a2
  have t4' : W'.cell? ⟨w.heap.size + 9, 4, none⟩ = some (.int .i64 (sm - 1)) := c.t4.trans ((World.cell?_of_block (w := W1) (a := ⟨_, 4, none⟩) (f.other mid hT1 (by decide) (by decide))).trans d.t4)
  have at3 : ∀ (i b : Nat), (swapOut bs pos last)[i]? = some b → W'.cell? ⟨b, 14, none⟩ = some (.int .i64 i) := by
    intro i b hb
    have hi : i < bs.length - 1 := by have := (List.getElem?_eq_some_iff.1 hb).1; rw [hbl] at this; exact this
    have hb2 : (bs.set pos last)[i]? = some b := by
      unfold swapOut at hb
      rw [List.getElem?_dropLast, if_pos (by simpa using hi)] at hb
      exact hb
    by_cases e : i = pos
    · subst e
      rw [List.getElem?_set_self (by omega)] at hb2
      obtain rfl := Option.some.inj hb2
      exact c.at'
    · rw [List.getElem?_set_ne (Ne.symm e)] at hb2
      have hbm : b ∈ bs := List.mem_of_getElem? hb2
      have hbl2 : b ≠ last := by
        rintro rfl
        have := (List.getElem?_inj (by omega) h.st.nd).1 (hb2.trans hlast.symm)
        omega
      exact (cell b hbm 14 (by omega) (by omega) (by omega) (by omega) (by omega) (fun e => absurd e hbl2)).trans (h.st.at' i b hb2)
  have node3 : ∀ b ∈ bs, NodeOk ky W' b ∧ W'.cell? ⟨b, 1, none⟩ = some (.string (nms (nm b))) := fun b hb => ⟨nod3 b hb, (cell b hb 1 (by omega) (by omega) (by omega) (by omega) (by omega) (fun _ => by omega)).trans (h.st.runs b hb).c1⟩
  have cM3 := (World.cell?_of_block (w := W) (a := ⟨w.heap.size + 8, 5, none⟩) eM).trans h.st.cM
  have row3 : W'.ownsRow w.heap.size 45 1 (.slice (some ⟨gq, 0, none⟩) (bs.length - 1) capq) (swapOut bs pos last).length (ptrs (swapOut bs pos last)) := by rw [hbl]; exact c.row
  have c12' := (rc 12 (by omega) (by omega) (by omega) (by omega)).trans d.c12
  rcases htree with ⟨hem, hm⟩ | ⟨root', n', hbx', htr', hm⟩
  · refine ⟨upd tb (nm r) none, updl l (nm r) [], cgone, c12', t4', c.t3, row3, at3, node3, c.slots, cM3, hmapblk _ hm, fun ν h2 => ?_, fun ν h2 => ?_, keep, lowW⟩
    · by_cases e : ν = nm r
      · subst e; simp only [upd, updl, if_true]; exact .inl ⟨rfl, rfl⟩
      · simp only [upd, updl, if_neg e]; exact treeo ν h2 e
    · by_cases e : ν = nm r
      · subst e; simp only [updl, if_true]; rw [← hem]; exact permr
      · simp only [updl, if_neg e]; exact permo ν h2 e
  · refine ⟨tb, updl l (nm r) (l1 ++ l2), cgone, c12', t4', c.t3, row3, at3, node3, c.slots, cM3, hmapblk _ hm, fun ν h2 => ?_, fun ν h2 => ?_, keep, lowW⟩
    · by_cases e : ν = nm r
      · subst e
        simp only [updl, if_true]
        refine .inr ⟨t, root', n', p.ht, (oth3 t _ 90 hbx' (by decide) (by decide) (Ne.symm (cells_ne hcg hbx' (by decide)))).trans hbx', htr'.same (fun x hx => ?_)⟩
        have hxl : x ∈ l (nm r) := by rw [hl]; rcases List.mem_append.1 hx with hx | hx <;> simp [hx]
        have hxb := ((h.st.mem hν).1 hxl).1
        exact ⟨run3 x hxb 22 (fun _ => by omega), run3 x hxb 23 (fun _ => by omega)⟩
      · simp only [updl, if_neg e]; exact treeo ν h2 e
    · by_cases e : ν = nm r
      · subst e; simp only [updl, if_true]; exact permr
      · simp only [updl, if_neg e]; exact permo ν h2 e
end Go.Proofs.Ybulkbhqs
