/-
  'place' by a contract. Own work on this program.
-/
import Derived.Test.YbulkbhqsInsert
import Derived.Test.YbulkbhqsMap
import Derived.Deep.RegionWith
import Derived.RangeFuncBox
namespace Go.Proofs.Ybulkbhqs
open Go.RowKit

theorem NodeOk.of_block {ky : Nat → Nat} {W W' : World} {b : Nat} (h : NodeOk ky W b) (e : W'.heap[b]? = W.heap[b]?) : NodeOk ky W' b := by
  have c : ∀ o, W'.cell? ⟨b, o, none⟩ = W.cell? ⟨b, o, none⟩ := fun o => World.cell?_of_block (w := W) (a := ⟨b, o, none⟩) e
  obtain ⟨⟨d, h1⟩, h2, h3, ⟨pl, hl⟩, ⟨pr, hr⟩, ⟨p, h4⟩, ⟨s, h5⟩, h6, h7, x, h8⟩ := h
  exact ⟨⟨d, (c _).trans h1⟩, (c _).trans h2, (c _).trans h3, ⟨pl, (c _).trans hl⟩, ⟨pr, (c _).trans hr⟩, ⟨p, (c _).trans h4⟩, ⟨s, (c _).trans h5⟩, fun o => (World.frozen?_of_block (w := W) (a := ⟨b, o, none⟩) e).trans (h6 o), h7, x, e.trans h8⟩

/-- A store into a cell that is none of a run's keys, links, priority, reach. -/
theorem NodeOk.store {ky : Nat → Nat} {W : World} {b : Nat} (h : NodeOk ky W b) (b' o : Nat) (v : Value) (ho : o ≠ 4 ∧ o ≠ 8 ∧ o ≠ 9 ∧ o ≠ 22 ∧ o ≠ 23 ∧ o ≠ 24 ∧ o ≠ 25) : NodeOk ky (W.setCell ⟨b', o, none⟩ v) b := by
  have c : ∀ o', o' ≠ o → (W.setCell ⟨b', o, none⟩ v).cell? ⟨b, o', none⟩ = W.cell? ⟨b, o', none⟩ := fun o' e => World.cell?_setCell_other _ _ _ _ (by simp)
  obtain ⟨⟨d, h1⟩, h2, h3, ⟨pl, hl⟩, ⟨pr, hr⟩, ⟨p, h4⟩, ⟨s, h5⟩, h6, h7, x, h8⟩ := h
  refine ⟨⟨d, (c _ (by omega)).trans h1⟩, (c _ (by omega)).trans h2, (c _ (by omega)).trans h3, ⟨pl, (c _ (by omega)).trans hl⟩, ⟨pr, (c _ (by omega)).trans hr⟩, ⟨p, (c _ (by omega)).trans h4⟩, ⟨s, (c _ (by omega)).trans h5⟩, fun o => (World.frozen?_setCell _ _ _ _).trans (h6 o), h7, ?_⟩
  by_cases e : b = b'
  · subst e; exact setCell_isc W ⟨b, o, none⟩ v x 63 (0, 0) h8
  · exact ⟨x, (Below.heap_setCell _ _ _ _ e).trans h8⟩

theorem NodeOk.drewN {ky : Nat → Nat} {W : World} {b : Nat} (h : NodeOk ky W b) (n : Nat) : NodeOk ky (W.drewN n) b := h.of_block rfl
theorem NodeOk.drew {ky : Nat → Nat} {W : World} {b : Nat} (h : NodeOk ky W b) : NodeOk ky W.drew b := h.of_block rfl

theorem Tr.of_blocks {ky : Nat → Nat} {W W' : World} {n : Nat} {p : Option Nat} {l : List Nat} (h : Tr ky W n p l) (e : ∀ x ∈ l, W'.heap[x]? = W.heap[x]?) : Tr ky W' n p l :=
  h.same fun x hx => ⟨World.cell?_of_block (w := W) (a := ⟨x, 22, none⟩) (e x hx), World.cell?_of_block (w := W) (a := ⟨x, 23, none⟩) (e x hx)⟩

theorem Tr.store {ky : Nat → Nat} {W : World} {n : Nat} {p : Option Nat} {l : List Nat} (h : Tr ky W n p l) (b' o : Nat) (v : Value) (ho : o ≠ 22 ∧ o ≠ 23) : Tr ky (W.setCell ⟨b', o, none⟩ v) n p l :=
  h.same fun x _ => ⟨World.cell?_setCell_other _ _ _ _ (by simp), World.cell?_setCell_other _ _ _ _ (by simp)⟩

/-- What lay outside S lies as it lay. -/
structure Kept (S : List Nat) (W W' : World) : Prop where
  os : W'.os = W.os
  tape : W'.tape = W.tape
  output : W'.output = W.output
  size : W.heap.size ≤ W'.heap.size
  blk : ∀ b, b < W.heap.size → b ∉ S → W'.heap[b]? = W.heap[b]?

theorem Kept.refl (S : List Nat) (W : World) : Kept S W W := ⟨rfl, rfl, rfl, Nat.le_refl _, fun _ _ _ => rfl⟩
theorem Kept.trans {S : List Nat} {A B C : World} (h : Kept S A B) (k : Kept S B C) : Kept S A C :=
  ⟨k.os.trans h.os, k.tape.trans h.tape, k.output.trans h.output, Nat.le_trans h.size k.size, fun b hb hs => (k.blk b (Nat.lt_of_lt_of_le hb h.size) hs).trans (h.blk b hb hs)⟩
theorem Kept.mono {S S' : List Nat} {A B : World} (h : Kept S A B) (hs : ∀ x ∈ S, x ∈ S' ∨ A.heap.size ≤ x) : Kept S' A B :=
  ⟨h.os, h.tape, h.output, h.size, fun b hb hn => h.blk b hb (fun m => (hs b m).elim hn (fun l => by omega))⟩
theorem Kept.drew {S : List Nat} {A B : World} (h : Kept S A B) : Kept S A B.drew := ⟨h.os, h.tape, h.output, h.size, h.blk⟩
theorem Kept.drewN {S : List Nat} {A B : World} (h : Kept S A B) (n : Nat) : Kept S A (B.drewN n) := ⟨h.os, h.tape, h.output, h.size, h.blk⟩
theorem Kept.set (S : List Nat) (W : World) (b o : Nat) (hb : b ∈ S) (v : Value) : Kept S W (W.setCell ⟨b, o, none⟩ v) :=
  ⟨rfl, rfl, rfl, by simp [World.setCell], fun b' _ hn => Below.heap_setCell _ _ _ _ (fun e => hn (by rw [e]; exact hb))⟩
theorem Kept.alloc (S : List Nat) (W : World) (o : Obj) : Kept S W (W.alloc o) := ⟨rfl, rfl, rfl, by simp, fun b hb _ => Below.heap_alloc _ _ _ hb⟩
theorem Kept.put (S : List Nat) (W : World) (m : Nat) (hm : m ∈ S) (o : Obj) : Kept S W (W.putObj m o) :=
  ⟨rfl, rfl, rfl, by simp, fun b _ hn => World.putObj_heap_other (fun e => hn (e ▸ hm))⟩
theorem Chg.kept {l : List Nat} {W W' : World} (h : Chg l W W') : Kept l W W' := ⟨h.os, h.tape, h.output, by rw [h.size]; exact Nat.le_refl _, fun b _ hn => h.blk b hn⟩

theorem Kept.drewBack {S : List Nat} {A B : World} (h : Kept S A.drew B) : Kept S A B := ⟨h.os, h.tape, h.output, h.size, h.blk⟩

/-- What 'place' leaves. -/
structure Placed (ky : Nat → Nat) (Rm r ν : Nat) (tb : Nat → Option Nat) (l : List Nat) (W W' : World) : Prop where
  tree : ∃ (t root n : Nat) (l1 l2 : List Nat), (tb ν = some t ∨ (tb ν = none ∧ W.heap.size ≤ t)) ∧ t < W'.heap.size ∧ Boxed W' t 90 (ptr (some root)) ∧ l = l1 ++ l2 ∧ Tr ky W' n (some root) (l1 ++ r :: l2) ∧
    MapIs W' Rm (upd tb ν (some t)) ∧ W'.cell? ⟨r, 21, none⟩ = some (ptr (some t)) ∧ Kept (r :: Rm :: t :: l) W W'
  nodes : ∀ x ∈ r :: l, NodeOk ky W' x
  stat : ∀ x ∈ r :: l, ∀ o, o ≠ 21 → o ≠ 22 → o ≠ 23 → o ≠ 25 → W'.cell? ⟨x, o, none⟩ = W.cell? ⟨x, o, none⟩
  of : ∀ x ∈ l, W'.cell? ⟨x, 21, none⟩ = W.cell? ⟨x, 21, none⟩

theorem MapIs.not_cells {W : World} {m : Nat} {tb : Nat → Option Nat} (h : MapIs W m tb) {b : Nat} {c : Array Value} {e : TypeId} {fr : Nat × Nat} (hb : W.heap[b]? = some (.cells c e fr)) : m ≠ b := by
  rintro rfl
  obtain ⟨es, clock, hm, _⟩ := h
  have := Option.some.inj (hm.symm.trans hb)
  simp at this

theorem MapIs.of_block {W W' : World} {m : Nat} {tb : Nat → Option Nat} (h : MapIs W m tb) (e : W'.heap[m]? = W.heap[m]?) : MapIs W' m tb := by
  obtain ⟨es, clock, hm, hs⟩ := h
  exact ⟨es, clock, e.trans hm, hs⟩

theorem placed_fin {ky : Nat → Nat} {Rm r ν t b m : Nat} {root : Option Nat} {tb : Nat → Option Nat} {l l1 l2 : List Nat} {W W1 W2 : World} (htb : tb ν = some t ∨ (tb ν = none ∧ W.heap.size ≤ t)) (k1 : Kept (r :: Rm :: t :: l) W W1)
    (hmap1 : MapIs W1 Rm (upd tb ν (some t))) (st1 : ∀ x ∈ r :: l, ∀ o, o ≠ 21 → W1.cell? ⟨x, o, none⟩ = W.cell? ⟨x, o, none⟩) (of1 : ∀ x ∈ l, W1.cell? ⟨x, 21, none⟩ = W.cell? ⟨x, 21, none⟩)
    (c21 : W1.cell? ⟨r, 21, none⟩ = some (.pointer (some ⟨t, 0, none⟩))) (bx1 : Boxed W1 t 90 (ptr root)) (hok1 : ∀ x ∈ r :: l, NodeOk ky W1 x) (hc : Chg (r :: l) W1.drew W2) (hl : l = l1 ++ l2) (t2 : Tr ky W2 m (some b) (l1 ++ r :: l2)) :
    Placed ky Rm r ν tb l W (W2.setCell ⟨t, 0, none⟩ (.pointer (some ⟨b, 0, none⟩))) := by
  have htl : t ∉ r :: l := by
    intro hx
    obtain ⟨c, hc⟩ := (hok1 t hx).blkc
    have := Option.some.inj ((show W1.heap[t]? = _ from bx1).symm.trans hc)
    simp at this
  have hRt : Rm ≠ t := hmap1.not_cells bx1
  have hRl : Rm ∉ r :: l := fun hx => by obtain ⟨c, hc⟩ := (hok1 Rm hx).blkc; exact hmap1.not_cells hc rfl
  have bx2 : Boxed W2 t 90 (ptr root) := (hc.blk t htl).trans bx1
  have far : ∀ x ∈ r :: l, (W2.setCell ⟨t, 0, none⟩ (.pointer (some ⟨b, 0, none⟩))).heap[x]? = W2.heap[x]? := fun x hx => Below.heap_setCell _ _ _ _ (fun e => htl (by rw [← show x = t from e]; exact hx))
  have farc : ∀ x ∈ r :: l, ∀ o, (W2.setCell ⟨t, 0, none⟩ (.pointer (some ⟨b, 0, none⟩))).cell? ⟨x, o, none⟩ = W2.cell? ⟨x, o, none⟩ := fun x hx o => World.cell?_of_block (w := W2) (a := ⟨x, o, none⟩) (far x hx)
  refine ⟨⟨t, b, m, l1, l2, htb, ?_, bx2.set _, hl, ?_, ?_, ?_, ?_⟩, ?_, ?_, ?_⟩
  · have := bx2.lt; simpa [World.setCell] using this
  · exact t2.of_blocks (fun x hx => far x (by rw [hl]; simp at hx ⊢; rcases hx with hx | hx | hx <;> simp [hx]))
  · exact hmap1.of_block ((Below.heap_setCell _ _ _ _ hRt).trans (hc.blk Rm hRl))
  · exact (farc r (by simp) 21).trans ((hc.cell r 21 (.inr (by omega))).trans c21)
  · exact (k1.trans (hc.kept.drewBack.mono (fun x hx => .inl (by simp at hx ⊢; rcases hx with hx | hx <;> simp [hx])))).trans (Kept.set _ _ _ _ (by simp) _)
  · intro x hx; exact ((hok1 x hx).drew.chg hc).of_block (far x hx)
  · intro x hx o h1 h2 h3 h4
    exact (farc x hx o).trans ((hc.cell x o (.inr ⟨h2, h3, h4⟩)).trans (st1 x hx o h1))
  · intro x hx
    exact (farc x (by simp [hx]) 21).trans ((hc.cell x 21 (.inr (by omega))).trans (of1 x hx))

set_option maxRecDepth 100000 in
set_option maxHeartbeats 1000000 in
/-- 'place', where the index has a treap. -/
theorem place_old (ky : Nat → Nat) (M Rm r ν t n : Nat) (root : Option Nat) (tb : Nat → Option Nat) (l : List Nat) (W : World) (cM : W.cell? ⟨M, 5, none⟩ = some (.map (some Rm))) (hmap : MapIs W Rm tb) (hν : ν < 2)
    (hidx : W.cell? ⟨r, 1, none⟩ = some (.string (nms ν))) (hof : W.cell? ⟨r, 21, none⟩ = some (ptr none)) (hok : ∀ x ∈ r :: l, NodeOk ky W x) (h22 : W.cell? ⟨r, 22, none⟩ = some (ptr none)) (h23 : W.cell? ⟨r, 23, none⟩ = some (ptr none))
    (ht : tb ν = some t) (hbx : Boxed W t 90 (ptr root)) (htr : Tr ky W n root l) (hnd : (r :: l).Nodup) :
    Calls Yba.prog 10 #[.pointer (some ⟨M, 0, none⟩), .pointer (some ⟨r, 0, none⟩)] W fun e W' => e = .returned (.tuple #[]) ∧ Placed ky Rm r ν tb l W W' := by
  have hf21 := (hok r (by simp)).fz 21
  have hlk : (Instr.lookup 81 (.map (some Rm)) (.string (nms ν)) false).run Yba.prog W.drew = .ok (.pointer (some ⟨t, 0, none⟩)) W.drew := by
    have := (lookup_any (W := W.drew) (m := Rm) (tb := tb) hmap hν).1; rwa [ht] at this
  have hne : t ≠ r := by
    rintro rfl
    obtain ⟨c, hc⟩ := (hok t (by simp)).blkc
    have := Option.some.inj ((show W.heap[t]? = _ from hbx).symm.trans hc)
    simp at this
  have htl : t ∉ r :: l := by
    intro hx
    obtain ⟨c, hc⟩ := (hok t hx).blkc
    have := Option.some.inj ((show W.heap[t]? = _ from hbx).symm.trans hc)
    simp at this
  have hRr : Rm ≠ r := by obtain ⟨c, hc⟩ := (hok r (by simp)).blkc; exact hmap.not_cells hc
  have hRlt : Rm < W.heap.size := by obtain ⟨es, clock, hm, _⟩ := hmap; exact (Array.getElem?_eq_some_iff.1 hm).1
  have HK := (show Hid _ from hok)
  clear hok
  go_enter Yba.func10, Yba.ntmps10
  go_wp2_with fail
  go_region
  go_wp2_with fail
  have k1 : Kept [r] W (W.setCell ⟨r, 21, none⟩ (.pointer (some ⟨t, 0, none⟩))).drew := (Kept.set _ _ _ _ (by simp) _).drew
  have c21 : (W.setCell ⟨r, 21, none⟩ (.pointer (some ⟨t, 0, none⟩))).drew.cell? ⟨r, 21, none⟩ = some (.pointer (some ⟨t, 0, none⟩)) := World.cell?_setCell_same _ _ _ hof
  have bx1 : Boxed (W.setCell ⟨r, 21, none⟩ (.pointer (some ⟨t, 0, none⟩))).drew t 90 (ptr root) := (k1.blk t hbx.lt (by simp [hne])).trans hbx
  have tr1 : Tr ky (W.setCell ⟨r, 21, none⟩ (.pointer (some ⟨t, 0, none⟩))).drew n root l := (htr.store r 21 _ (by omega)).of_blocks (fun _ _ => rfl)
  have hok1 : ∀ x ∈ r :: l, NodeOk ky (W.setCell ⟨r, 21, none⟩ (.pointer (some ⟨t, 0, none⟩))).drew x := fun x hx => ((HK.out x hx).store r 21 _ (by omega)).drew
  have st1 : ∀ x o, ¬ (x = r ∧ o = 21) → (W.setCell ⟨r, 21, none⟩ (.pointer (some ⟨t, 0, none⟩))).drew.cell? ⟨x, o, none⟩ = W.cell? ⟨x, o, none⟩ := fun x o h => World.cell?_setCell_other _ _ _ _ (by intro e; simp at e; exact h ⟨e.1.symm, e.2.symm⟩)
  generalize (W.setCell ⟨r, 21, none⟩ (.pointer (some ⟨t, 0, none⟩))).drew = W1 at *
  have g22 : W1.cell? ⟨r, 22, none⟩ = some (ptr none) := (st1 r 22 (by omega)).trans h22
  have g23 : W1.cell? ⟨r, 23, none⟩ = some (ptr none) := (st1 r 23 (by omega)).trans h23
  have HI := (show Hid _ from insert_any ky r n root l W1.drew (tr1.of_blocks (fun _ _ => rfl)) hnd (fun x hx => (hok1 x hx).drew) g22 g23)
  have bxc := bx1.cell
  have HS := (show Hid _ from And.intro hok1 st1)
  clear hok1 st1
  go_region_with (go_at_call 16; refine (show Calls _ _ _ _ _ from HI.out).mono ?_; rintro e W2 ⟨b, l1, l2, m, rfl, hl, t2, hc⟩; have d21 : W2.cell? ⟨r, 21, none⟩ = some (.pointer (some ⟨t, 0, none⟩)) := (hc.cell r 21 (.inr (by omega))).trans c21; have bx2 : Boxed W2 t 90 (ptr root) := (hc.blk t htl).trans bx1; have bxc2 := bx2.cell; have bxf2 := bx2.frozen)
  all_goals
    go_end0
    refine ⟨rfl, placed_fin (.inl ht) (k1.mono (fun x hx => .inl (by simp at hx; simp [hx]))) ?_ (fun x hx o ho => HS.out.2 x o (by omega)) (fun x hx => HS.out.2 x 21 (fun e => (List.nodup_cons.1 hnd).1 (e.1 ▸ hx))) c21 bx1 HS.out.1 hc hl t2⟩
    have e : upd tb ν (some t) = tb := by funext i; simp only [upd]; split <;> simp_all
    rw [e]
    exact hmap.of_block (k1.blk Rm hRlt (by simp [hRr]))
end Go.Proofs.Ybulkbhqs
