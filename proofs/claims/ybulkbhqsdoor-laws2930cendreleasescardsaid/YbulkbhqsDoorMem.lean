/-
  What lies in memory while the law lays its requests. Own work on this program.
-/
import Derived.Test.YbulkbhqsDoorNew
namespace Go.Proofs.YbulkbhqsDoor
open Go.RowKit
set_option linter.unusedVariables false

structure Gs where
  mh : Nat
  q : Nat → Nat
  th : Nat → Bool
  inn : Nat → Bool
  A : Nat → List Nat
  own : Nat → Bool
  ex : Nat → Bool
  R : Nat → Value
  C : Nat → List Nat
  K : Nat
  K2 : Nat

def Gs.gh (N : Nat) (s : Gs) : Gh := { base := N, m := N + 5, t := N + 6, u := N + 7, mt := N + 1, kk := N + 3, mh := s.mh, q := s.q, th := s.th, all := s.A, own := s.own }

/-- The sixteen rows. -/
structure Rows16 (N : Nat) (R : Nat → Value) (C : Nat → List Nat) (w : World) : Prop where
  own : ∀ j, j < 16 → w.ownsRow N 29 1 (R j) (C j).length (ptrs (C j))
  apart : ∀ i j, i < 16 → j < 16 → i ≠ j → ∀ b, (R i).ownBlock = some b → (R j).ownBlock ≠ some b

structure Mem (N : Nat) (en : Bool) (s : Gs) (W0 w : World) : Prop where
  man : w.heap[N + 5]? = some (.cells (manc (N + 1) (N + 2) (N + 3) (N + 4)) 68 (0, 0))
  arr : ∃ c : Array Value, c.size = 6 ∧ (∀ o, o < 6 → c[o]? = some (if s.th o = true then pt (s.q o) else .pointer none)) ∧ w.heap[N + 8]? = some (.cells c 39 (0, 0))
  arra : ∃ c : Array Value, c.size = 6 ∧ (∀ o, o < 6 → c[o]? = some (s.R (6 + o))) ∧ w.heap[N + 9]? = some (.cells c 40 (0, 0))
  queue : ∀ o, o < 6 → s.th o = true → w.heap[s.q o]? = some (.cells #[.string (idN o), .string (idK o), .int .i8 (idP o), .bool (idT o), s.R o, .pointer none] 51 (0, 0))
  tx : w.heap[N + 6]? = some (.cells (txc (N + 5) 1 (s.R 12) (s.R 13) en s.K) 37 (0, 0))
  ux : w.heap[N + 7]? = some (.cells (txc (N + 5) 2 (s.R 14) (s.R 15) false s.K2) 37 (0, 0))
  rows : Rows16 N s.R s.C w
  reqs : ∀ o r, o < 6 → r ∈ s.A o → Req (s.gh N) w r o (s.ex r)
  tables : MapAs w (N + 1) (tabRel (s.gh N) s.inn)
  keys : MapAs w (N + 3) (keyRel (s.gh N) s.inn)
  home : anyKey s.inn → MapAs w s.mh (homeRel (s.gh N) s.inn)
  lowh : anyKey s.inn → N + 10 ≤ s.mh
  frame : Kept [] W0 w
  size0 : W0.heap.size = N
  lowq : ∀ o, o < 6 → s.th o = true → N ≤ s.q o
  lowr : ∀ o r, o < 6 → r ∈ s.A o → N ≤ r
  inTh : ∀ o, o < 6 → s.inn o = true → s.th o = true
  qinj : ∀ o o', o < 6 → o' < 6 → s.th o = true → s.th o' = true → s.q o = s.q o' → o = o'

variable {N : Nat} {en : Bool} {s : Gs} {W0 w w' : World}

theorem Rows16.keep {R : Nat → Value} {C : Nat → List Nat} (h : Rows16 N R C w) (far : ∀ (b : Nat) (c : Array Value), w.heap[b]? = some (.cells c 29 (0, 0)) → w'.heap[b]? = w.heap[b]?) : Rows16 N R C w' :=
  ⟨fun j hj => owns_of_block (h.own j hj) (fun b hb => by obtain ⟨c, hc⟩ := row_blk (h.own j hj) hb; exact far b c hc), h.apart⟩

theorem Mem.kept (h : Mem N en s W0 w) (k : Kept [] w w') : Mem N en s W0 w' := by
  have far : ∀ {b : Nat} {o : Obj}, w.heap[b]? = some o → w'.heap[b]? = some o := fun hb => (k.blk _ (Array.getElem?_eq_some_iff.1 hb).1 (by simp)).trans hb
  have farm : ∀ {b : Nat} {f : Value → Value → Prop}, MapAs w b f → MapAs w' b f := fun hm => hm.same (k.blk _ hm.lt (by simp))
  obtain ⟨c1, a1, a2, a3⟩ := h.arr
  obtain ⟨c2, b1, b2, b3⟩ := h.arra
  exact ⟨far h.man, ⟨c1, a1, a2, far a3⟩, ⟨c2, b1, b2, far b3⟩, fun o ho ht => far (h.queue o ho ht), far h.tx, far h.ux, h.rows.keep (fun b c hb => k.blk b (Array.getElem?_eq_some_iff.1 hb).1 (by simp)),
    fun o r ho hr => (h.reqs o r ho hr).far (by obtain ⟨c, hc⟩ := (h.reqs o r ho hr).blk; exact k.blk r (Array.getElem?_eq_some_iff.1 hc).1 (by simp)), farm h.tables, farm h.keys, fun a => farm (h.home a), h.lowh, h.frame.trans k, h.size0, h.lowq, h.lowr, h.inTh, h.qinj⟩

theorem Mem.big (h : Mem N en s W0 w) : N + 10 ≤ w.heap.size := by
  obtain ⟨c, _, _, hc⟩ := h.arra
  have := (Array.getElem?_eq_some_iff.1 hc).1
  omega

theorem rel_q {inn : Nat → Bool} {g g' : Gh} (hm : g'.mh = g.mh) (hq : ∀ o, o < 6 → inn o = true → g'.q o = g.q o) :
    (∀ k v, tabRel g inn k v ↔ tabRel g' inn k v) ∧ (∀ k v, keyRel g inn k v ↔ keyRel g' inn k v) ∧ (∀ k v, homeRel g inn k v ↔ homeRel g' inn k v) := by
  refine ⟨fun k v => ?_, fun k v => ?_, fun k v => ?_⟩
  · constructor <;> rintro ⟨o, h1, h2, h3, h4⟩
    · exact ⟨o, h1, h2, h3, by rw [hq o (by omega) h2]; exact h4⟩
    · exact ⟨o, h1, h2, h3, by rw [← hq o (by omega) h2]; exact h4⟩
  · unfold keyRel
    rw [hm]
  · constructor <;> rintro ⟨o, h1, h2, h3, h4, h5⟩
    · exact ⟨o, h1, h2, h3, h4, by rw [hq o h2 h3]; exact h5⟩
    · exact ⟨o, h1, h2, h3, h4, by rw [← hq o h2 h3]; exact h5⟩

/-- A new queue. -/
theorem Mem.newq (h : Mem N en s W0 w) {o : Nat} (ho : o < 6) (hth : s.th o = false) (hR : s.R o = .slice none 0 0) (hA : s.A o = []) (hin : s.inn o = false)
    (e : w' = (w.alloc (.cells #[.string (idN o), .string (idK o), .int .i8 (idP o), .bool (idT o), .slice none 0 0, .pointer none] 51 (0, 0))).setCell ⟨N + 8, o, none⟩ (pt w.heap.size)) :
    Mem N en { s with th := upd s.th o true, q := upd s.q o w.heap.size } W0 w' := by
  obtain ⟨c1, a1, a2, a3⟩ := h.arr
  obtain ⟨c2, b1, b2, b3⟩ := h.arra
  have hbig := h.big
  have far : ∀ b, b < w.heap.size → b ≠ N + 8 → w'.heap[b]? = w.heap[b]? := fun b hb hne => by rw [e]; exact (Below.heap_setCell _ _ _ _ hne).trans (Below.heap_alloc _ _ _ hb)
  have farc : ∀ {b : Nat} {c : Array Value} {t : TypeId}, w.heap[b]? = some (.cells c t (0, 0)) → t ≠ 39 → w'.heap[b]? = w.heap[b]? := fun hb ht => far _ (Array.getElem?_eq_some_iff.1 hb).1 (cells_ne hb a3 ht)
  have farm : ∀ {b : Nat} {f : Value → Value → Prop}, MapAs w b f → MapAs w' b f := fun hm => hm.same (far _ hm.lt (hm.ne_cells a3))
  have hq : ∀ o', o' < 6 → s.inn o' = true → upd s.q o w.heap.size o' = s.q o' := fun o' _ hi => upd_other _ _ (fun e' => by subst e'; rw [hin] at hi; cases hi)
  obtain ⟨r1, r2, r3⟩ := rel_q (g := s.gh N) (g' := ({ s with th := upd s.th o true, q := upd s.q o w.heap.size } : Gs).gh N) (inn := s.inn) rfl hq
  have hqo : ∀ o', o' ≠ o → (upd s.th o true o' = s.th o' ∧ upd s.q o w.heap.size o' = s.q o') := fun o' hne => ⟨upd_other _ _ hne, upd_other _ _ hne⟩
  have hnew : w'.heap[w.heap.size]? = some (.cells #[.string (idN o), .string (idK o), .int .i8 (idP o), .bool (idT o), .slice none 0 0, .pointer none] 51 (0, 0)) := by
    rw [e]; exact (Below.heap_setCell _ _ _ _ (show w.heap.size ≠ N + 8 by omega)).trans (heap_alloc_new _ _)
  refine ⟨(farc h.man (by decide)).trans h.man, ⟨c1.setIfInBounds o (pt w.heap.size), by simp [a1], ?_, ?_⟩, ⟨c2, b1, b2, (farc b3 (by decide)).trans b3⟩, ?_, (farc h.tx (by decide)).trans h.tx, (farc h.ux (by decide)).trans h.ux, h.rows.keep (fun b c hb => farc hb (by decide)), ?_,
    (farm h.tables).congr r1, (farm h.keys).congr r2, fun a => (farm (h.home a)).congr r3, h.lowh, ?_, h.size0, ?_, h.lowr, ?_, ?_⟩
  · intro o' ho'
    show (c1.setIfInBounds o (pt w.heap.size))[o']? = some (if upd s.th o true o' = true then pt (upd s.q o w.heap.size o') else .pointer none)
    by_cases e' : o' = o
    · subst e'
      rw [upd_same, upd_same, if_pos rfl]
      simp [a1, ho']
    · rw [(hqo o' e').1, (hqo o' e').2, ← a2 o' ho']
      simp [Ne.symm e']
  · rw [e]
    exact heap_set_cells ((Below.heap_alloc _ _ _ (Array.getElem?_eq_some_iff.1 a3).1).trans a3)
  · intro o' ho' ht'
    show w'.heap[upd s.q o w.heap.size o']? = _
    by_cases e' : o' = o
    · subst e'
      rw [upd_same, hnew, hR]
    · have ht2 : s.th o' = true := by rw [← (hqo o' e').1]; exact ht'
      rw [(hqo o' e').2]
      exact (farc (h.queue o' ho' ht2) (by decide)).trans (h.queue o' ho' ht2)
  · intro o' r ho' hr
    have hne : o' ≠ o := by rintro rfl; rw [hA] at hr; simp at hr
    obtain ⟨c, hc⟩ := (h.reqs o' r ho' hr).blk
    have := (h.reqs o' r ho' hr).far (farc hc (by decide))
    exact ⟨this.blk, this.txn, by have := this.que; show _ = some (pt (upd s.q o w.heap.size o')); rw [(hqo o' hne).2]; exact this, this.granted, this.exposed⟩
  · refine h.frame.andThen (T := [N + 8]) ⟨by rw [e]; rfl, by rw [e]; rfl, by rw [e]; rfl, by rw [e]; simp [World.setCell], fun b hb hn => far b hb (by simpa using hn)⟩ (fun x hx => .inr (by have := h.size0; simp at hx; omega))
  · intro o' ho' ht'
    show N ≤ upd s.q o w.heap.size o'
    by_cases e' : o' = o
    · subst e'; rw [upd_same]; omega
    · rw [(hqo o' e').2]; exact h.lowq o' ho' (by rw [← (hqo o' e').1]; exact ht')
  · intro o' ho' hi
    show upd s.th o true o' = true
    by_cases e' : o' = o
    · subst e'; rw [upd_same]
    · rw [(hqo o' e').1]; exact h.inTh o' ho' hi
  · intro o1 o2 h1 h2 t1 t2 heq
    have lt : ∀ o', o' < 6 → o' ≠ o → upd s.th o true o' = true → s.q o' < w.heap.size := fun o' ho' hne ht' => (Array.getElem?_eq_some_iff.1 (h.queue o' ho' (by rw [← (hqo o' hne).1]; exact ht'))).1
    have heq : upd s.q o w.heap.size o1 = upd s.q o w.heap.size o2 := heq
    have t1 : upd s.th o true o1 = true := t1
    have t2 : upd s.th o true o2 = true := t2
    by_cases e1 : o1 = o
    · by_cases e2 : o2 = o
      · rw [e1, e2]
      · have := lt o2 h2 e2 t2
        rw [e1, upd_same, (hqo o2 e2).2] at heq
        omega
    · by_cases e2 : o2 = o
      · have := lt o1 h1 e1 t1
        rw [e2, upd_same, (hqo o1 e1).2] at heq
        omega
      · rw [(hqo o1 e1).2, (hqo o2 e2).2] at heq
        exact h.qinj o1 o2 h1 h2 (by rw [← (hqo o1 e1).1]; exact t1) (by rw [← (hqo o2 e2).1]; exact t2) heq

/-- The maps alone turn. -/
theorem Mem.maps (h : Mem N en s W0 w) {inn' : Nat → Bool} {mh' : Nat} (hlow : anyKey inn' → N + 10 ≤ mh') (far : ∀ b, b < w.heap.size → b ≠ N + 1 → b ≠ N + 3 → (anyKey s.inn → b ≠ s.mh) → w'.heap[b]? = w.heap[b]?)
    (henv : w'.os = w.os ∧ w'.tape = w.tape ∧ w'.output = w.output ∧ w.heap.size ≤ w'.heap.size)
    (hth : ∀ o, o < 6 → inn' o = true → s.th o = true)
    (h1 : MapAs w' (N + 1) (tabRel (({ s with inn := inn', mh := mh' } : Gs).gh N) inn')) (h2 : MapAs w' (N + 3) (keyRel (({ s with inn := inn', mh := mh' } : Gs).gh N) inn')) (h3 : anyKey inn' → MapAs w' mh' (homeRel (({ s with inn := inn', mh := mh' } : Gs).gh N) inn')) :
    Mem N en { s with inn := inn', mh := mh' } W0 w' := by
  have cf : ∀ {b : Nat} {c : Array Value} {t : TypeId}, w.heap[b]? = some (.cells c t (0, 0)) → w'.heap[b]? = w.heap[b]? := fun hb =>
    far _ (Array.getElem?_eq_some_iff.1 hb).1 (fun e => h.tables.ne_cells hb e.symm) (fun e => h.keys.ne_cells hb e.symm) (fun a e => (h.home a).ne_cells hb e.symm)
  obtain ⟨c1, a1, a2, a3⟩ := h.arr
  obtain ⟨c2, b1, b2, b3⟩ := h.arra
  have hlowh := h.lowh
  refine ⟨(cf h.man).trans h.man, ⟨c1, a1, a2, (cf a3).trans a3⟩, ⟨c2, b1, b2, (cf b3).trans b3⟩, fun o ho ht => (cf (h.queue o ho ht)).trans (h.queue o ho ht), (cf h.tx).trans h.tx, (cf h.ux).trans h.ux, h.rows.keep (fun b c hb => cf hb), ?_, h1, h2, h3, hlow, ?_, h.size0, h.lowq, h.lowr, hth, h.qinj⟩
  · intro o r ho hr
    obtain ⟨c, hc⟩ := (h.reqs o r ho hr).blk
    have := (h.reqs o r ho hr).far (cf hc)
    exact ⟨this.blk, this.txn, this.que, this.granted, this.exposed⟩
  · refine ⟨henv.1.trans h.frame.os, henv.2.1.trans h.frame.tape, henv.2.2.1.trans h.frame.output, Nat.le_trans h.frame.size henv.2.2.2, fun b hb hn => ?_⟩
    have h0 := h.size0
    refine (far b (Nat.lt_of_lt_of_le hb h.frame.size) (by omega) (by omega) (fun a => by have := hlowh a; omega)).trans (h.frame.blk b hb hn)

theorem upd_true_le {inn th : Nat → Bool} {o : Nat} (h : ∀ o, o < 6 → inn o = true → th o = true) (ht : th o = true) : ∀ o', o' < 6 → upd inn o true o' = true → th o' = true := by
  intro o' ho' hi
  by_cases e : o' = o
  · subst e; exact ht
  · rw [upd_other _ _ e] at hi; exact h o' ho' hi

theorem any_put {inn : Nat → Bool} {o : Nat} (ho : o < 3) : anyKey (upd inn o true) ↔ anyKey inn := by
  constructor <;> rintro ⟨o', h1, h2, h3⟩
  · exact ⟨o', h1, h2, by rw [upd_other _ _ (by omega)] at h3; exact h3⟩
  · exact ⟨o', h1, h2, by rw [upd_other _ _ (by omega)]; exact h3⟩

theorem tab_put {g : Gh} {inn : Nat → Bool} {o : Nat} (ho : o < 3) (k v : Value) : ((k = .string (nmb o) ∧ v = pt (g.q o)) ∨ (k ≠ .string (nmb o) ∧ tabRel g inn k v)) ↔ tabRel g (upd inn o true) k v := by
  constructor
  · rintro (⟨rfl, rfl⟩ | ⟨hne, o', h1, h2, rfl, h4⟩)
    · exact ⟨o, ho, upd_same _ _ _, rfl, rfl⟩
    · exact ⟨o', h1, by rw [upd_other _ _ (fun e => hne (by rw [e]))]; exact h2, rfl, h4⟩
  · rintro ⟨o', h1, h2, rfl, rfl⟩
    by_cases e : o' = o
    · subst e; exact .inl ⟨rfl, rfl⟩
    · rw [upd_other _ _ e] at h2
      exact .inr ⟨fun he => e (nmb_inj h1 ho (by simpa using he)), o', h1, h2, rfl, rfl⟩

theorem home_put {g : Gh} {inn : Nat → Bool} {o : Nat} (h3 : 3 ≤ o) (ho : o < 6) (k v : Value) : ((k = .string (nmb (o - 3)) ∧ v = pt (g.q o)) ∨ (k ≠ .string (nmb (o - 3)) ∧ homeRel g inn k v)) ↔ homeRel g (upd inn o true) k v := by
  constructor
  · rintro (⟨rfl, rfl⟩ | ⟨hne, o', h1, h2, h3', rfl, h4⟩)
    · exact ⟨o, h3, ho, upd_same _ _ _, rfl, rfl⟩
    · exact ⟨o', h1, h2, by rw [upd_other _ _ (fun e => hne (by rw [e]))]; exact h3', rfl, h4⟩
  · rintro ⟨o', h1, h2, h3', rfl, rfl⟩
    by_cases e : o' = o
    · subst e; exact .inl ⟨rfl, rfl⟩
    · rw [upd_other _ _ e] at h3'
      exact .inr ⟨fun he => e (by have := nmb_inj (i := o' - 3) (j := o - 3) (by omega) (by omega) (by simpa using he); omega), o', h1, h2, h3', rfl, rfl⟩

/-- A table's queue into its map. -/
theorem Mem.putTable (h : Mem N en s W0 w) {o : Nat} (ho : o < 3) (hth : s.th o = true) {es : Array MapEntry} {clock : Nat} (e : w' = w.putObj (N + 1) (.map es clock))
    (he : EntAs (fun k v => (k = .string (nmb o) ∧ v = pt (s.q o)) ∨ (k ≠ .string (nmb o) ∧ tabRel (s.gh N) s.inn k v)) es clock) : Mem N en { s with inn := upd s.inn o true } W0 w' := by
  have far : ∀ b, b ≠ N + 1 → w'.heap[b]? = w.heap[b]? := fun b hb => by rw [e]; exact World.putObj_heap_other hb
  have hbig := h.big
  refine h.maps (mh' := s.mh) (inn' := upd s.inn o true) (fun a => h.lowh ((any_put ho).1 a)) (fun b _ h1 _ _ => far b h1) (by rw [e]; exact ⟨rfl, rfl, rfl, by simp [World.putObj]⟩) (upd_true_le h.inTh hth) ?_ ?_ ?_
  · exact ⟨es, clock, by rw [e]; exact World.putObj_heap_same (by omega), he.1, fun k v => (tab_put (g := s.gh N) ho k v).symm.trans (he.2 k v)⟩
  · refine (h.keys.same (far _ (by omega))).congr (fun k v => ?_)
    unfold keyRel
    rw [any_put ho]
    exact Iff.rfl
  · intro a
    have a' := (any_put ho).1 a
    have hl := h.lowh a'
    refine ((h.home a').same (far _ (by omega))).congr (fun k v => ?_)
    constructor <;> rintro ⟨o', h1, h2, h3, h4⟩
    · exact ⟨o', h1, h2, by rw [upd_other _ _ (by omega)]; exact h3, h4⟩
    · exact ⟨o', h1, h2, by rw [upd_other _ _ (by omega)] at h3; exact h3, h4⟩

/-- A key's queue into the map of keys that is there. -/
theorem Mem.putKey (h : Mem N en s W0 w) {o : Nat} (h3 : 3 ≤ o) (ho : o < 6) (hth : s.th o = true) (ha : anyKey s.inn) {es : Array MapEntry} {clock : Nat} (e : w' = w.putObj s.mh (.map es clock))
    (he : EntAs (fun k v => (k = .string (nmb (o - 3)) ∧ v = pt (s.q o)) ∨ (k ≠ .string (nmb (o - 3)) ∧ homeRel (s.gh N) s.inn k v)) es clock) : Mem N en { s with inn := upd s.inn o true } W0 w' := by
  have hl := h.lowh ha
  have far : ∀ b, b ≠ s.mh → w'.heap[b]? = w.heap[b]? := fun b hb => by rw [e]; exact World.putObj_heap_other hb
  refine h.maps (mh' := s.mh) (inn' := upd s.inn o true) (fun _ => hl) (fun b _ _ _ h4 => far b (h4 ha)) (by rw [e]; exact ⟨rfl, rfl, rfl, by simp [World.putObj]⟩) (upd_true_le h.inTh hth) ?_ ?_ ?_
  · refine (h.tables.same (far _ (by omega))).congr (fun k v => ?_)
    constructor <;> rintro ⟨o', h1, h2, h4⟩
    · exact ⟨o', h1, by rw [upd_other _ _ (by omega)]; exact h2, h4⟩
    · exact ⟨o', h1, by rw [upd_other _ _ (by omega)] at h2; exact h2, h4⟩
  · refine (h.keys.same (far _ (by omega))).congr (fun k v => ?_)
    exact ⟨fun ⟨h1, h2, _⟩ => ⟨h1, h2, o, h3, ho, upd_same _ _ _⟩, fun ⟨h1, h2, _⟩ => ⟨h1, h2, ha⟩⟩
  · intro _
    exact ⟨es, clock, by rw [e]; exact World.putObj_heap_same (h.home ha).lt, he.1, fun k v => (home_put (g := s.gh N) h3 ho k v).symm.trans (he.2 k v)⟩

/-- A key's queue into a new map of keys. -/
theorem Mem.putFirst (h : Mem N en s W0 w) {o : Nat} (h3 : 3 ≤ o) (ho : o < 6) (hth : s.th o = true) (ha : ¬ anyKey s.inn) {es es2 : Array MapEntry} {clock clock2 : Nat}
    (e : w' = ((w.alloc (.map #[] 0)).putObj (N + 3) (.map es clock)).putObj w.heap.size (.map es2 clock2))
    (he : EntAs (fun k v => (k = .string ⟨#[105]⟩ ∧ v = .map (some w.heap.size)) ∨ (k ≠ .string ⟨#[105]⟩ ∧ keyRel (s.gh N) s.inn k v)) es clock)
    (he2 : EntAs (fun k v => (k = .string (nmb (o - 3)) ∧ v = pt (s.q o)) ∨ (k ≠ .string (nmb (o - 3)) ∧ False)) es2 clock2) : Mem N en { s with inn := upd s.inn o true, mh := w.heap.size } W0 w' := by
  have hbig := h.big
  have far : ∀ b, b < w.heap.size → b ≠ N + 3 → w'.heap[b]? = w.heap[b]? := fun b hb hne => by
    rw [e]; exact (World.putObj_heap_other (by omega)).trans ((World.putObj_heap_other hne).trans (Below.heap_alloc _ _ _ hb))
  have hsz : w'.heap.size = w.heap.size + 1 := by rw [e]; simp [World.putObj]
  refine h.maps (mh' := w.heap.size) (inn' := upd s.inn o true) (fun _ => hbig) (fun b hb _ h1 _ => far b hb h1) (by rw [e]; exact ⟨rfl, rfl, rfl, by simp [World.putObj]⟩) (upd_true_le h.inTh hth) ?_ ?_ ?_
  · refine (h.tables.same (far _ (by omega) (by omega))).congr (fun k v => ?_)
    constructor <;> rintro ⟨o', h1, h2, h4⟩
    · exact ⟨o', h1, by rw [upd_other _ _ (by omega)]; exact h2, h4⟩
    · exact ⟨o', h1, by rw [upd_other _ _ (by omega)] at h2; exact h2, h4⟩
  · refine ⟨es, clock, ?_, he.1, fun k v => Iff.trans ?_ (he.2 k v)⟩
    · rw [e]
      refine (World.putObj_heap_other (by omega)).trans (World.putObj_heap_same ?_)
      simp; omega
    · constructor
      · rintro ⟨h1, h2, _⟩; exact .inl ⟨h1, h2⟩
      · rintro (⟨h1, h2⟩ | ⟨_, _, _, a⟩)
        · exact ⟨h1, h2, o, h3, ho, upd_same _ _ _⟩
        · exact absurd a ha
  · intro _
    refine ⟨es2, clock2, ?_, he2.1, fun k v => Iff.trans ?_ (he2.2 k v)⟩
    · rw [e]; exact World.putObj_heap_same (by simp [World.putObj])
    · constructor
      · rintro ⟨o', h1, h2, h4, rfl, rfl⟩
        have : o' = o := by
          apply Classical.byContradiction
          intro hne
          rw [upd_other _ _ hne] at h4
          exact ha ⟨o', h1, h2, h4⟩
        subst this
        exact .inl ⟨rfl, rfl⟩
      · rintro (⟨rfl, rfl⟩ | ⟨_, hf⟩)
        · exact ⟨o, h3, ho, upd_same _ _ _, rfl, rfl⟩
        · exact hf.elim
end Go.Proofs.YbulkbhqsDoor
