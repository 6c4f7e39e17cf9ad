/-
  What lies behind 'end', for the law's own look. Own work on this program.
-/
import Derived.Test.YbulkbhqsDoorLawB
namespace Go.Proofs.YbulkbhqsDoor
open Go.RowKit
set_option linter.unusedVariables false

theorem Kept.below {W W' : World} (h : Kept [] W W') : Below W.heap.size W W' := ⟨h.os, h.tape, h.output, h.size, fun k hk => h.blk k hk (by simp)⟩

/-- Behind 'end'. -/
structure Fin (N : Nat) (en : Bool) (s : Gs) (l : Nat → List Nat) (row : Nat → Value) (inn ex : Nat → Bool) (W0 w : World) : Prop where
  qs : QS (s.gh N) l row inn ex w
  ll : ∀ o, o < 6 → l o = (s.A o).filter (fun r => en || !s.own r)
  inn : ∀ o, o < 6 → s.th o = true → (inn o = true ↔ l o ≠ [])
  arr : ∃ c : Array Value, c.size = 6 ∧ (∀ o, o < 6 → c[o]? = some (if s.th o = true then pt (s.q o) else .pointer none)) ∧ w.heap[N + 8]? = some (.cells c 39 (0, 0))
  arra : ∃ c : Array Value, c.size = 6 ∧ (∀ o, o < 6 → c[o]? = some (s.R (6 + o))) ∧ w.heap[N + 9]? = some (.cells c 40 (0, 0))
  rows : ∀ o, o < 6 → w.ownsRow N 29 1 (s.R (6 + o)) (s.A o).length (ptrs (s.A o))
  frame : Kept [] W0 w
  len : ∀ o, o < 6 → (s.A o).length ≤ 512
  qinj : ∀ o o', o < 6 → o' < 6 → s.th o = true → s.th o' = true → s.q o = s.q o' → o = o'
  size0 : W0.heap.size = N
  tne : ∃ c, w.heap[N + 6]? = some (.cells c 37 (0, 0))
  une : ∃ c, w.heap[N + 7]? = some (.cells c 37 (0, 0))

variable {N : Nat} {en : Bool} {s : Gs} {l : Nat → List Nat} {row : Nat → Value} {inn ex : Nat → Bool} {W0 w w' : World}

theorem Fin.kept (h : Fin N en s l row inn ex W0 w) (k : Kept [] w w') : Fin N en s l row inn ex W0 w' := by
  have far : ∀ {b : Nat} {o : Obj}, w.heap[b]? = some o → w'.heap[b]? = some o := fun hb => (k.blk _ (Array.getElem?_eq_some_iff.1 hb).1 (by simp)).trans hb
  obtain ⟨c1, a1, a2, a3⟩ := h.arr
  obtain ⟨c2, b1, b2, b3⟩ := h.arra
  obtain ⟨c3, d3⟩ := h.tne
  obtain ⟨c4, d4⟩ := h.une
  exact ⟨h.qs.kept k (by simp), h.ll, h.inn, ⟨c1, a1, a2, far a3⟩, ⟨c2, b1, b2, far b3⟩, fun o ho => owns_of_block (h.rows o ho) (fun b hb => by obtain ⟨c, hc⟩ := row_blk (h.rows o ho) hb; exact k.blk b (Array.getElem?_eq_some_iff.1 hc).1 (by simp)), h.frame.trans k, h.len, h.qinj, h.size0, ⟨c3, far d3⟩, ⟨c4, far d4⟩⟩

/-- It had ended before. -/
theorem Mem.finShut (h : Mem N true s W0 w) {n : Nat} (p : Pur s n 6) (hn : n ≤ 512) : Fin N true s s.A s.R s.inn s.ex W0 w := by
  obtain ⟨q, st, _⟩ := h.qs p hn
  refine ⟨q, fun o ho => (List.filter_eq_self.2 (by simp)).symm, fun o ho ht => ?_, h.arr, h.arra, fun o ho => by rw [← p.cb o ho]; exact h.rows.own (6 + o) (by omega), h.frame, st.len, h.qinj, h.size0, ⟨_, h.tx⟩, ⟨_, h.ux⟩⟩
  rw [p.inn o ho, ht]
  exact ⟨fun _ => p.thn o ho (by omega) ht, fun _ => rfl⟩

/-- It ends now. -/
theorem Mem.finOpen (h : Mem N false s W0 w) {n : Nat} (p : Pur s n 6) (hn : n ≤ 512) (e : Ended (s.gh N) s.R s.inn w w') :
    (∃ l row inn ex, Fin N false s l row inn ex W0 w') ∧ w'.heap[N + 7]? = w.heap[N + 7]? ∧ w'.heap[N + 6]? = some (.cells (txc (N + 5) 1 (.slice none 0 0) (.slice none 0 0) true 0) 37 (0, 0)) := by
  obtain ⟨q, st, _⟩ := h.qs p hn
  obtain ⟨row', inn', ex', q', rb, hi⟩ := e.qs
  have h0 := h.size0
  have far : ∀ b, b < w.heap.size → b ≠ N + 6 → ¬ used (s.gh N) s.R s.inn b → w'.heap[b]? = w.heap[b]? := fun b hb h1 h2 => e.frame.blk b hb (fun hh => hh.elim h1 h2)
  have nu : ∀ {b : Nat} {c : Array Value} {t : TypeId}, w.heap[b]? = some (.cells c t (0, 0)) → t ≠ 68 → t ≠ 51 → t ≠ 72 → t ≠ 29 → ¬ used (s.gh N) s.R s.inn b := by
    rintro b c t hb h68 h51 h72 h29 (rfl | rfl | rfl | ⟨k, rfl⟩ | ⟨o, ho, ⟨hth, rfl | hr⟩ | hr⟩)
    · exact cells_ne hb h.man h68 rfl
    · exact h.tables.ne_cells hb rfl
    · exact h.keys.ne_cells hb rfl
    · exact (h.home k).ne_cells hb rfl
    · exact cells_ne hb (h.queue o ho hth) h51 rfl
    · obtain ⟨c', hc⟩ := row_blk (h.rows.own o (by omega)) hr; exact cells_ne hb hc h29 rfl
    · obtain ⟨c', hc⟩ := (h.reqs o b ho hr).blk; exact cells_ne hb hc h72 rfl
  have lowu : ∀ b, used (s.gh N) s.R s.inn b → N ≤ b := by
    rintro b (rfl | rfl | rfl | ⟨k, rfl⟩ | ⟨o, ho, ⟨hth, rfl | hr⟩ | hr⟩)
    · show N ≤ N + 5; omega
    · show N ≤ N + 1; omega
    · show N ≤ N + 3; omega
    · have := h.lowh k; show N ≤ s.mh; omega
    · exact h.lowq o ho hth
    · rcases (h.rows.own o (by omega)).2 with ⟨e', _⟩ | ⟨g, cap, cur, e', hge, _⟩
      · rw [e'] at hr; simp [Value.ownBlock] at hr
      · rw [e'] at hr; simp [Value.ownBlock] at hr; omega
    · exact h.lowr o b ho hr
  obtain ⟨c1, a1, a2, a3⟩ := h.arr
  obtain ⟨c2, b1, b2, b3⟩ := h.arra
  have fc : ∀ {b : Nat} {c : Array Value} {t : TypeId}, w.heap[b]? = some (.cells c t (0, 0)) → b ≠ N + 6 → t ≠ 68 → t ≠ 51 → t ≠ 72 → t ≠ 29 → w'.heap[b]? = w.heap[b]? := fun hb hne h68 h51 h72 h29 => far _ (Array.getElem?_eq_some_iff.1 hb).1 hne (nu hb h68 h51 h72 h29)
  have hu := fc h.ux (by omega) (by decide) (by decide) (by decide) (by decide)
  refine ⟨⟨_, row', inn', ex', q', fun o ho => by simp [Gs.gh], fun o ho ht => hi o ho ht, ⟨c1, a1, a2, (fc a3 (by omega) (by decide) (by decide) (by decide) (by decide)).trans a3⟩, ⟨c2, b1, b2, (fc b3 (by omega) (by decide) (by decide) (by decide) (by decide)).trans b3⟩, fun o ho => ?_, ?_, st.len, h.qinj, h0, ⟨_, e.tx⟩, ⟨_, hu.trans h.ux⟩⟩, hu, e.tx⟩
  · rw [← p.cb o ho]
    refine owns_of_block (h.rows.own (6 + o) (by omega)) (fun b hb => ?_)
    obtain ⟨c, hc⟩ := row_blk (h.rows.own (6 + o) (by omega)) hb
    refine far b (Array.getElem?_eq_some_iff.1 hc).1 (cells_ne hc h.tx (by decide)) ?_
    rintro (rfl | rfl | rfl | ⟨k, rfl⟩ | ⟨o', ho', ⟨hth, rfl | hr⟩ | hr⟩)
    · exact cells_ne hc h.man (by decide) rfl
    · exact h.tables.ne_cells hc rfl
    · exact h.keys.ne_cells hc rfl
    · exact (h.home k).ne_cells hc rfl
    · exact cells_ne hc (h.queue o' ho' hth) (by decide) rfl
    · exact h.rows.apart (6 + o) o' (by omega) (by omega) (by omega) b hb hr
    · obtain ⟨c', hc'⟩ := (h.reqs o' b ho' hr).blk; exact cells_ne hc hc' (by decide) rfl
  · refine ⟨e.frame.os.trans h.frame.os, e.frame.tape.trans h.frame.tape, e.frame.output.trans h.frame.output, Nat.le_trans h.frame.size e.frame.size, fun b hb hn => ?_⟩
    exact (far b (Nat.lt_of_lt_of_le hb h.frame.size) (by omega) (fun hu => by have := lowu b hu; omega)).trans (h.frame.blk b hb hn)
end Go.Proofs.YbulkbhqsDoor
