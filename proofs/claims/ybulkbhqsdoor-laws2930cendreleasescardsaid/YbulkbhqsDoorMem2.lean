/-
  A new request, and what is appended to a row. Own work on this program.
-/
import Derived.Test.YbulkbhqsDoorMem
namespace Go.Proofs.YbulkbhqsDoor
open Go.RowKit
set_option linter.unusedVariables false

variable {N : Nat} {en : Bool} {s : Gs} {W0 w w' : World}

/-- A new request. -/
theorem Mem.newr (h : Mem N en s W0 w) {o r : Nat} (ho : o < 6) (b x : Bool) (hth : s.th o = true) (hr : r = w.heap.size) {c : Array Value} (hc : w'.heap[r]? = some (.cells c 72 (0, 0)))
    (c0 : c[0]? = some (pt (if b = true then N + 6 else N + 7))) (c1 : c[1]? = some (pt (s.q o))) (c10 : c[10]? = some (.bool true)) (c11 : c[11]? = some (.bool x))
    (far : ∀ b', b' < w.heap.size → b' ≠ N + 6 → b' ≠ N + 7 → w'.heap[b']? = w.heap[b']?) {k k2 : Nat}
    (htx : w'.heap[N + 6]? = some (.cells (txc (N + 5) 1 (s.R 12) (s.R 13) en k) 37 (0, 0))) (hux : w'.heap[N + 7]? = some (.cells (txc (N + 5) 2 (s.R 14) (s.R 15) false k2) 37 (0, 0)))
    (henv : w'.os = w.os ∧ w'.tape = w.tape ∧ w'.output = w.output ∧ w.heap.size ≤ w'.heap.size) :
    Mem N en { s with A := upd s.A o (s.A o ++ [r]), own := upd s.own r b, ex := upd s.ex r x, K := k, K2 := k2 } W0 w' := by
  have ft : ∀ {b' : Nat} {c : Array Value} {t : TypeId}, w.heap[b']? = some (.cells c t (0, 0)) → t ≠ 37 → w'.heap[b']? = w.heap[b']? := fun hb ht => far _ (Array.getElem?_eq_some_iff.1 hb).1 (cells_ne hb h.tx ht) (cells_ne hb h.ux ht)
  have fm : ∀ {b' : Nat} {f : Value → Value → Prop}, MapAs w b' f → MapAs w' b' f := fun hm => hm.same (far _ hm.lt (hm.ne_cells h.tx) (hm.ne_cells h.ux))
  obtain ⟨d1, a1, a2, a3⟩ := h.arr
  obtain ⟨d2, b1, b2, b3⟩ := h.arra
  have hold : ∀ o' r', o' < 6 → r' ∈ s.A o' → r' ≠ r := fun o' r' ho' hr' => by
    obtain ⟨c', hc'⟩ := (h.reqs o' r' ho' hr').blk
    have := (Array.getElem?_eq_some_iff.1 hc').1
    omega
  have hmem : ∀ o' r', o' < 6 → r' ∈ upd s.A o (s.A o ++ [r]) o' → (r' ∈ s.A o' ∨ (r' = r ∧ o' = o)) := by
    intro o' r' ho' hr'
    by_cases e : o' = o
    · subst e
      rw [upd_same] at hr'
      rcases List.mem_append.1 hr' with h' | h'
      · exact .inl h'
      · exact .inr ⟨by simpa using h', rfl⟩
    · rw [upd_other _ _ e] at hr'
      exact .inl hr'
  refine ⟨(ft h.man (by decide)).trans h.man, ⟨d1, a1, a2, (ft a3 (by decide)).trans a3⟩, ⟨d2, b1, b2, (ft b3 (by decide)).trans b3⟩, fun o' ho' ht' => (ft (h.queue o' ho' ht') (by decide)).trans (h.queue o' ho' ht'), htx, hux, h.rows.keep (fun b' c' hb => ft hb (by decide)), ?_, fm h.tables, fm h.keys, fun a => fm (h.home a), h.lowh, ?_, h.size0, h.lowq, ?_, h.inTh, h.qinj⟩
  · intro o' r' ho' hr'
    rcases hmem o' r' ho' hr' with h' | ⟨rfl, rfl⟩
    · have hne := hold o' r' ho' h'
      obtain ⟨c', hc'⟩ := (h.reqs o' r' ho' h').blk
      have q := (h.reqs o' r' ho' h').far (ft hc' (by decide))
      refine ⟨q.blk, ?_, q.que, q.granted, ?_⟩
      · have := q.txn
        show _ = some (pt (if upd s.own r b r' = true then N + 6 else N + 7))
        rw [upd_other _ _ hne]
        exact this
      · show _ = some (Value.bool (upd s.ex r x r'))
        rw [upd_other _ _ hne]
        exact q.exposed
    · refine ⟨⟨c, hc⟩, ?_, ?_, ?_, ?_⟩
      · show _ = some (pt (if upd s.own r' b r' = true then N + 6 else N + 7))
        rw [upd_same]
        simp [World.cell?, hc, c0]
      · show _ = some (pt (s.q o'))
        simp [World.cell?, hc, c1]
      · simp [World.cell?, hc, c10]
      · show _ = some (Value.bool (upd s.ex r' x r'))
        rw [upd_same]
        simp [World.cell?, hc, c11]
  · refine ⟨henv.1.trans h.frame.os, henv.2.1.trans h.frame.tape, henv.2.2.1.trans h.frame.output, Nat.le_trans h.frame.size henv.2.2.2, fun b' hb hn => ?_⟩
    have h0 := h.size0
    exact (far b' (Nat.lt_of_lt_of_le hb h.frame.size) (by omega) (by omega)).trans (h.frame.blk b' hb hn)
  · intro o' r' ho' hr'
    rcases hmem o' r' ho' hr' with h' | ⟨rfl, rfl⟩
    · exact h.lowr o' r' ho' h'
    · have := h.big
      omega

theorem Rows16.app {R : Nat → Value} {C : Nat → List Nat} (h : Rows16 N R C w) {j : Nat} (hj : j < 16) {v' : Value} {r : Nat} (own' : w'.ownsRow N 29 1 v' ((C j).length + 1) (ptrs (C j ++ [r])))
    (loc : v'.ownBlock = (R j).ownBlock ∨ ∃ b, v'.ownBlock = some b ∧ w.heap.size ≤ b) (far : ∀ (b : Nat) (c : Array Value), w.heap[b]? = some (.cells c 29 (0, 0)) → (R j).ownBlock ≠ some b → w'.heap[b]? = w.heap[b]?) : Rows16 N (upd R j v') (upd C j (C j ++ [r])) w' := by
  refine ⟨fun i hi => ?_, fun i i' hi hi' hne b hb => ?_⟩
  · by_cases e : i = j
    · subst e
      rw [upd_same, upd_same]
      simpa using own'
    · rw [upd_other _ _ e, upd_other _ _ e]
      refine owns_of_block (h.own i hi) (fun b hb => ?_)
      obtain ⟨c, hc⟩ := row_blk (h.own i hi) hb
      exact far b c hc (h.apart i j hi hj e b hb)
  · have old : ∀ i, i < 16 → ∀ b, (R i).ownBlock = some b → b < w.heap.size := fun i hi b hb => by
      obtain ⟨c, hc⟩ := row_blk (h.own i hi) hb
      exact (Array.getElem?_eq_some_iff.1 hc).1
    by_cases e : i = j
    · subst e
      rw [upd_same] at hb
      rw [upd_other _ _ (Ne.symm hne)]
      intro hb'
      rcases loc with l | ⟨b2, l, hl⟩
      · rw [l] at hb; exact h.apart i i' hi hi' hne b hb hb'
      · rw [l] at hb
        have := old i' hi' b hb'
        simp at hb
        omega
    · rw [upd_other _ _ e] at hb
      by_cases e' : i' = j
      · subst e'
        rw [upd_same]
        intro hb'
        rcases loc with l | ⟨b2, l, hl⟩
        · rw [l] at hb'; exact h.apart i i' hi hi' hne b hb hb'
        · rw [l] at hb'
          have := old i hi b hb
          simp at hb'
          omega
      · rw [upd_other _ _ e']
        exact h.apart i i' hi hi' hne b hb

/-- One row is longer by one; the block hb holds it. -/
theorem Mem.app (h : Mem N en s W0 w) {j hb : Nat} (hj : j < 16) {v' : Value} {r : Nat} {ch : Array Value} {eh : TypeId} (hh : w.heap[hb]? = some (.cells ch eh (0, 0))) (he : eh ≠ 68 ∧ eh ≠ 39 ∧ eh ≠ 72 ∧ eh ≠ 29) (hN : N ≤ hb)
    (own' : w'.ownsRow N 29 1 v' ((s.C j).length + 1) (ptrs (s.C j ++ [r]))) (loc : v'.ownBlock = (s.R j).ownBlock ∨ ∃ b, v'.ownBlock = some b ∧ w.heap.size ≤ b)
    (far : ∀ b, b < w.heap.size → (s.R j).ownBlock ≠ some b → b ≠ hb → w'.heap[b]? = w.heap[b]?) (henv : w'.os = w.os ∧ w'.tape = w.tape ∧ w'.output = w.output ∧ w.heap.size ≤ w'.heap.size)
    (ha : ∃ c : Array Value, c.size = 6 ∧ (∀ o, o < 6 → c[o]? = some (upd s.R j v' (6 + o))) ∧ w'.heap[N + 9]? = some (.cells c 40 (0, 0)))
    (hq : ∀ o, o < 6 → s.th o = true → w'.heap[s.q o]? = some (.cells #[.string (idN o), .string (idK o), .int .i8 (idP o), .bool (idT o), upd s.R j v' o, .pointer none] 51 (0, 0)))
    (htx : w'.heap[N + 6]? = some (.cells (txc (N + 5) 1 (upd s.R j v' 12) (upd s.R j v' 13) en s.K) 37 (0, 0))) (hux : w'.heap[N + 7]? = some (.cells (txc (N + 5) 2 (upd s.R j v' 14) (upd s.R j v' 15) false s.K2) 37 (0, 0))) :
    Mem N en { s with R := upd s.R j v', C := upd s.C j (s.C j ++ [r]) } W0 w' := by
  have rb : ∀ b, (s.R j).ownBlock = some b → (∃ c, w.heap[b]? = some (.cells c 29 (0, 0))) ∧ N ≤ b := fun b hb' => ⟨row_blk (h.rows.own j hj) hb', by
    rcases (h.rows.own j hj).2 with ⟨e, _⟩ | ⟨g, cap, cur, e, hge, _⟩
    · rw [e] at hb'; simp [Value.ownBlock] at hb'
    · rw [e] at hb'; simp [Value.ownBlock] at hb'; omega⟩
  have ft : ∀ {b : Nat} {c : Array Value} {t : TypeId}, w.heap[b]? = some (.cells c t (0, 0)) → t ≠ 29 → t ≠ eh → w'.heap[b]? = w.heap[b]? := fun hb' h1 h2 => far _ (Array.getElem?_eq_some_iff.1 hb').1 (fun e => by obtain ⟨⟨c', hc'⟩, _⟩ := rb _ e; exact cells_ne hb' hc' h1 rfl) (cells_ne hb' hh h2)
  have fm : ∀ {b : Nat} {f : Value → Value → Prop}, MapAs w b f → MapAs w' b f := fun hm => hm.same (far _ hm.lt (fun e => by obtain ⟨⟨c', hc'⟩, _⟩ := rb _ e; exact hm.ne_cells hc' rfl) (hm.ne_cells hh))
  obtain ⟨d1, a1, a2, a3⟩ := h.arr
  refine ⟨(ft h.man (by decide) (Ne.symm he.1)).trans h.man, ⟨d1, a1, a2, (ft a3 (by decide) (Ne.symm he.2.1)).trans a3⟩, ha, hq, htx, hux, h.rows.app hj own' loc (fun b c hb' hne => far b (Array.getElem?_eq_some_iff.1 hb').1 hne (cells_ne hb' hh (Ne.symm he.2.2.2))), ?_, fm h.tables, fm h.keys, fun a => fm (h.home a), h.lowh, ?_, h.size0, h.lowq, h.lowr, h.inTh, h.qinj⟩
  · intro o' r' ho' hr'
    obtain ⟨c', hc'⟩ := (h.reqs o' r' ho' hr').blk
    have q := (h.reqs o' r' ho' hr').far (ft hc' (by decide) (Ne.symm he.2.2.1))
    exact ⟨q.blk, q.txn, q.que, q.granted, q.exposed⟩
  · refine ⟨henv.1.trans h.frame.os, henv.2.1.trans h.frame.tape, henv.2.2.1.trans h.frame.output, Nat.le_trans h.frame.size henv.2.2.2, fun b hb' hn => ?_⟩
    have h0 := h.size0
    exact (far b (Nat.lt_of_lt_of_le hb' h.frame.size) (fun e => by have := (rb b e).2; omega) (by omega)).trans (h.frame.blk b hb' hn)

/-- What 'append' of one request to the row j does ahead of the store. -/
structure App (N : Nat) (s : Gs) (j r : Nat) (v' : Value) (w w1 : World) : Prop where
  own : w1.ownsRow N 29 1 v' ((s.C j).length + 1) (ptrs (s.C j ++ [r]))
  loc : v'.ownBlock = (s.R j).ownBlock ∨ ∃ b, v'.ownBlock = some b ∧ w.heap.size ≤ b
  far : ∀ b, b < w.heap.size → (s.R j).ownBlock ≠ some b → w1.heap[b]? = w.heap[b]?
  env : w1.os = w.os ∧ w1.tape = w.tape ∧ w1.output = w.output ∧ w.heap.size ≤ w1.heap.size

/-- The append's run: the one request lies in a new block first. -/
theorem Mem.append (h : Mem N en s W0 w) {j : Nat} (hj : j < 16) (hC : (s.C j).length ≤ 1024) (r : Nat) :
    ∃ v' w1, (Builtin.append_ #[27, 27] 27 #[s.R j, .slice (some ⟨w.heap.size, 0, none⟩) 1 1]).run Ybad.prog (w.alloc (.cells #[pt r] 29 (0, 0))) = .ok v' w1 ∧ App N s j r v' w w1 := by
  have hbig := h.big
  have h1 : (w.alloc (.cells #[pt r] 29 (0, 0))).ownsRow N 29 1 (.slice (some ⟨w.heap.size, 0, none⟩) 1 1) 1 (ptrs [r]) :=
    ⟨rfl, .inr ⟨w.heap.size, 1, #[pt r], rfl, by omega, heap_alloc_new _ _, Nat.le_refl _, by unfold maxLen; omega, rfl, rfl⟩⟩
  obtain ⟨v', w1, hr, h2, h3, h5⟩ := append_rows ((h.rows.own j hj).alloc (.cells #[pt r] 29 (0, 0))) h1 (by omega) (by omega) (by simp; omega)
  refine ⟨v', w1, hr, h2, ?_, fun b hb hne => ?_, ⟨h3.os, h3.tape, h3.output, Nat.le_trans (by simp) h3.size⟩⟩
  · rcases h5 with h5 | h5
    · exact .inl h5
    · exact .inr ⟨_, h5, by simp⟩
  · exact (h3.block b (by simp; omega) (fun e => hne e.symm)).trans (Below.heap_alloc _ _ _ hb)

theorem App.stored {j r : Nat} {v' : Value} {w1 : World} (h : App N s j r v' w w1) {hb ho : Nat} {ch : Array Value} {eh : TypeId} (hh : w.heap[hb]? = some (.cells ch eh (0, 0))) (he : eh ≠ 29) (hm : Mem N en s W0 w) (hj : j < 16) :
    (w1.setCell ⟨hb, ho, none⟩ v').ownsRow N 29 1 v' ((s.C j).length + 1) (ptrs (s.C j ++ [r])) ∧ (∀ b, b < w.heap.size → (s.R j).ownBlock ≠ some b → b ≠ hb → (w1.setCell ⟨hb, ho, none⟩ v').heap[b]? = w.heap[b]?) ∧
      (w1.setCell ⟨hb, ho, none⟩ v').heap[hb]? = some (.cells (ch.setIfInBounds ho v') eh (0, 0)) ∧ w1.heap[hb]? = some (.cells ch eh (0, 0)) ∧
      ((w1.setCell ⟨hb, ho, none⟩ v').os = w.os ∧ (w1.setCell ⟨hb, ho, none⟩ v').tape = w.tape ∧ (w1.setCell ⟨hb, ho, none⟩ v').output = w.output ∧ w.heap.size ≤ (w1.setCell ⟨hb, ho, none⟩ v').heap.size) := by
  have hne : (s.R j).ownBlock ≠ some hb := fun e => by obtain ⟨c', hc'⟩ := row_blk (hm.rows.own j hj) e; exact cells_ne hh hc' he rfl
  have h1 : w1.heap[hb]? = some (.cells ch eh (0, 0)) := (h.far hb (Array.getElem?_eq_some_iff.1 hh).1 hne).trans hh
  refine ⟨owns_of_block h.own (fun b hb' => ?_), fun b hb' h2 h3 => (Below.heap_setCell _ _ _ _ h3).trans (h.far b hb' h2), heap_set_cells h1, h1, h.env.1, h.env.2.1, h.env.2.2.1, by simp [World.setCell]; exact h.env.2.2.2⟩
  refine Below.heap_setCell _ _ _ _ (fun e => ?_)
  obtain ⟨c', hc'⟩ := row_blk h.own hb'
  have e' : b = hb := e
  rw [e'] at hc'
  exact cells_ne h1 hc' he rfl

/-- onto a queue's row -/
theorem Mem.appq (h : Mem N en s W0 w) {o r : Nat} (ho : o < 6) (hth : s.th o = true) {v' : Value} {w1 : World} (a : App N s o r v' w w1) :
    Mem N en { s with R := upd s.R o v', C := upd s.C o (s.C o ++ [r]) } W0 (w1.setCell ⟨s.q o, 4, none⟩ v') := by
  have hq := h.queue o ho hth
  obtain ⟨s1, s2, s3, s4, s5⟩ := a.stored (ho := 4) hq (by decide) h (by omega)
  obtain ⟨d2, b1, b2, b3⟩ := h.arra
  have far : ∀ {b : Nat} {c : Array Value} {t : TypeId}, w.heap[b]? = some (.cells c t (0, 0)) → t ≠ 29 → b ≠ s.q o → (w1.setCell ⟨s.q o, 4, none⟩ v').heap[b]? = w.heap[b]? := fun hb h1 h2 => s2 _ (Array.getElem?_eq_some_iff.1 hb).1 (fun e => by obtain ⟨c', hc'⟩ := row_blk (h.rows.own o (by omega)) e; exact cells_ne hb hc' h1 rfl) h2
  refine h.app (by omega) hq (by decide) (h.lowq o ho hth) s1 a.loc s2 s5 ⟨d2, b1, fun o' ho' => by rw [upd_other _ _ (by omega)]; exact b2 o' ho', (far b3 (by decide) (cells_ne b3 hq (by decide))).trans b3⟩ ?_ ?_ ?_
  · intro o' ho' ht'
    by_cases e : o' = o
    · subst e
      rw [upd_same, s3]
      rfl
    · rw [upd_other _ _ e]
      exact (far (h.queue o' ho' ht') (by decide) (fun e' => e (h.qinj o' o ho' ho ht' hth e'))).trans (h.queue o' ho' ht')
  · rw [upd_other _ _ (by omega), upd_other _ _ (by omega)]
    exact (far h.tx (by decide) (cells_ne h.tx hq (by decide))).trans h.tx
  · rw [upd_other _ _ (by omega), upd_other _ _ (by omega)]
    exact (far h.ux (by decide) (cells_ne h.ux hq (by decide))).trans h.ux

/-- onto a row of 'all' -/
theorem Mem.appa (h : Mem N en s W0 w) {o r : Nat} (ho : o < 6) {v' : Value} {w1 : World} (a : App N s (6 + o) r v' w w1) :
    Mem N en { s with R := upd s.R (6 + o) v', C := upd s.C (6 + o) (s.C (6 + o) ++ [r]) } W0 (w1.setCell ⟨N + 9, o, none⟩ v') := by
  obtain ⟨d2, b1, b2, b3⟩ := h.arra
  obtain ⟨s1, s2, s3, s4, s5⟩ := a.stored (ho := o) b3 (by decide) h (by omega)
  have far : ∀ {b : Nat} {c : Array Value} {t : TypeId}, w.heap[b]? = some (.cells c t (0, 0)) → t ≠ 29 → t ≠ 40 → (w1.setCell ⟨N + 9, o, none⟩ v').heap[b]? = w.heap[b]? := fun hb h1 h2 => s2 _ (Array.getElem?_eq_some_iff.1 hb).1 (fun e => by obtain ⟨c', hc'⟩ := row_blk (h.rows.own (6 + o) (by omega)) e; exact cells_ne hb hc' h1 rfl) (cells_ne hb b3 h2)
  refine h.app (by omega) b3 (by decide) (by omega) s1 a.loc s2 s5 ⟨d2.setIfInBounds o v', by simp [b1], fun o' ho' => ?_, s3⟩ ?_ ?_ ?_
  · by_cases e : o' = o
    · subst e
      rw [upd_same]
      simp [b1, ho']
    · rw [upd_other _ _ (by omega), ← b2 o' ho']
      simp [Ne.symm e]
  · intro o' ho' ht'
    rw [upd_other _ _ (by omega)]
    exact (far (h.queue o' ho' ht') (by decide) (by decide)).trans (h.queue o' ho' ht')
  · rw [upd_other _ _ (by omega), upd_other _ _ (by omega)]
    exact (far h.tx (by decide) (by decide)).trans h.tx
  · rw [upd_other _ _ (by omega), upd_other _ _ (by omega)]
    exact (far h.ux (by decide) (by decide)).trans h.ux

/-- The owner's row: b: the transaction that ends, or the other; t: tables, or entries. -/
def oj (b t : Bool) : Nat := if b then (if t then 13 else 12) else (if t then 15 else 14)

theorem Mem.appo (h : Mem N en s W0 w) (b t : Bool) {r : Nat} {v' : Value} {w1 : World} (a : App N s (oj b t) r v' w w1) :
    Mem N en { s with R := upd s.R (oj b t) v', C := upd s.C (oj b t) (s.C (oj b t) ++ [r]) } W0 (w1.setCell ⟨if b = true then N + 6 else N + 7, if t = true then 5 else 2, none⟩ v') := by
  obtain ⟨d2, b1, b2, b3⟩ := h.arra
  have hj : oj b t < 16 := by cases b <;> cases t <;> decide
  have hj12 : 12 ≤ oj b t := by cases b <;> cases t <;> decide
  have fart : ∀ {b' hb : Nat} {c : Array Value} {t' : TypeId} (s2 : ∀ b', b' < w.heap.size → (s.R (oj b t)).ownBlock ≠ some b' → b' ≠ hb → (w1.setCell ⟨if b = true then N + 6 else N + 7, if t = true then 5 else 2, none⟩ v').heap[b']? = w.heap[b']?), w.heap[b']? = some (.cells c t' (0, 0)) → t' ≠ 29 → b' ≠ hb → (w1.setCell ⟨if b = true then N + 6 else N + 7, if t = true then 5 else 2, none⟩ v').heap[b']? = w.heap[b']? :=
    fun s2 hb' h1 h2 => s2 _ (Array.getElem?_eq_some_iff.1 hb').1 (fun e => by obtain ⟨c', hc'⟩ := row_blk (h.rows.own _ hj) e; exact cells_ne hb' hc' h1 rfl) h2
  cases b with
  | true =>
    obtain ⟨s1, s2, s3, s4, s5⟩ := a.stored (ho := if t = true then 5 else 2) h.tx (by decide) h hj
    refine h.app hj h.tx (by decide) (by omega) s1 a.loc s2 s5 ⟨d2, b1, fun o' ho' => by rw [upd_other _ _ (by omega)]; exact b2 o' ho', (fart s2 b3 (by decide) (by omega)).trans b3⟩ (fun o' ho' ht' => ?_) ?_ ?_
    · rw [upd_other _ _ (by omega)]
      exact (fart s2 (h.queue o' ho' ht') (by decide) (cells_ne (h.queue o' ho' ht') h.tx (by decide))).trans (h.queue o' ho' ht')
    · refine s3.trans ?_
      cases t <;> simp [oj, upd, txc]
    · refine (fart s2 h.ux (by decide) (by omega)).trans (h.ux.trans ?_)
      cases t <;> simp [oj, upd]
  | false =>
    obtain ⟨s1, s2, s3, s4, s5⟩ := a.stored (ho := if t = true then 5 else 2) h.ux (by decide) h hj
    refine h.app hj h.ux (by decide) (by omega) s1 a.loc s2 s5 ⟨d2, b1, fun o' ho' => by rw [upd_other _ _ (by omega)]; exact b2 o' ho', (fart s2 b3 (by decide) (by omega)).trans b3⟩ (fun o' ho' ht' => ?_) ?_ ?_
    · rw [upd_other _ _ (by omega)]
      exact (fart s2 (h.queue o' ho' ht') (by decide) (cells_ne (h.queue o' ho' ht') h.ux (by decide))).trans (h.queue o' ho' ht')
    · refine (fart s2 h.tx (by decide) (by omega)).trans (h.tx.trans ?_)
      cases t <;> simp [oj, upd]
    · refine s3.trans ?_
      cases t <;> simp [oj, upd, txc]
end Go.Proofs.YbulkbhqsDoor
