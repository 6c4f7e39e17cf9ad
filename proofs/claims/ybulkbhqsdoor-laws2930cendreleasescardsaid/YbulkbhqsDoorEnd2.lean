/-
  The state while a transaction's queues are settled. Own work on this program.
-/
import Derived.Test.YbulkbhqsDoorEnd
namespace Go.Proofs.YbulkbhqsDoor
open Go.RowKit
open Go.ChangeMaps (setBlock)
set_option linter.unusedVariables false

variable {g : Gh} {row : Nat → Value} {inn ex : Nat → Bool} {W : World}

/-- What 'end' leaves. -/
structure Ended (g : Gh) (row : Nat → Value) (inn : Nat → Bool) (W W' : World) : Prop where
  qs : ∃ row' inn' ex', QS g (fun o => (g.all o).filter (fun r => !g.own r)) row' inn' ex' W' ∧ (∀ o, o < 6 → g.th o = true → (row' o).ownBlock = (row o).ownBlock) ∧ ∀ o, o < 6 → g.th o = true → (inn' o = true ↔ (g.all o).filter (fun r => !g.own r) ≠ [])
  tx : W'.heap[g.t]? = some (.cells (txc g.m 1 (.slice none 0 0) (.slice none 0 0) true 0) 37 (0, 0))
  frame : KeptP (fun b => b = g.t ∨ used g row inn b) W W'

/-- Cells of one block laid anew, one after the other. -/
def setL (t : Nat) : World → List (Nat × Value) → World
  | w, [] => w
  | w, (o, v) :: r => setL t (w.setCell ⟨t, o, none⟩ v) r

theorem setL_far (t b : Nat) (h : b ≠ t) : ∀ (L : List (Nat × Value)) (w : World), (setL t w L).heap[b]? = w.heap[b]?
  | [], w => rfl
  | (o, v) :: r, w => (setL_far t b h r _).trans (Below.heap_setCell _ _ _ _ h)
theorem setL_size (t : Nat) : ∀ (L : List (Nat × Value)) (w : World), (setL t w L).heap.size = w.heap.size
  | [], w => rfl
  | (o, v) :: r, w => (setL_size t r _).trans (by simp [World.setCell])
theorem setL_env (t : Nat) : ∀ (L : List (Nat × Value)) (w : World), (setL t w L).os = w.os ∧ (setL t w L).tape = w.tape ∧ (setL t w L).output = w.output
  | [], w => ⟨rfl, rfl, rfl⟩
  | (o, v) :: r, w => setL_env t r (w.setCell ⟨t, o, none⟩ v)
theorem setL_at (t : Nat) {e : TypeId} : ∀ (L : List (Nat × Value)) (w : World) (c : Array Value), w.heap[t]? = some (.cells c e (0, 0)) → (setL t w L).heap[t]? = some (.cells (L.foldl (fun c p => c.setIfInBounds p.1 p.2) c) e (0, 0))
  | [], w, c, h => h
  | (o, v) :: r, w, c, h => setL_at t r _ _ (heap_set_cells h)

def bare : List (Nat × Value) :=
  [(2, .slice none 0 0), (5, .slice none 0 0), (12, .map none), (3, .slice none 0 0), (4, .int .i64 0), (13, .string ⟨#[]⟩), (14, .pointer none), (15, .pointer none), (16, .string ⟨#[]⟩), (17, .pointer none), (18, .pointer none), (19, .string ⟨#[]⟩), (20, .pointer none), (21, .pointer none), (22, .string ⟨#[]⟩), (23, .pointer none), (24, .pointer none)]

/-- The transaction's cells laid bare. -/
def cleared (w : World) (t : Nat) : World := setL t w bare

theorem cleared_far (w : World) (t b : Nat) (h : b ≠ t) : (cleared w t).heap[b]? = w.heap[b]? := setL_far t b h bare w
theorem cleared_size (w : World) (t : Nat) : (cleared w t).heap.size = w.heap.size := setL_size t bare w
theorem cleared_env (w : World) (t : Nat) : (cleared w t).os = w.os ∧ (cleared w t).tape = w.tape ∧ (cleared w t).output = w.output := setL_env t bare w

theorem cleared_at {w : World} {t m : Nat} {id k : Int} {hv tv : Value} {en : Bool} (h : w.heap[t]? = some (.cells (txc m id hv tv en k) 37 (0, 0))) : (cleared w t).heap[t]? = some (.cells (txc m id (.slice none 0 0) (.slice none 0 0) en k) 37 (0, 0)) := by
  refine (setL_at t bare w _ h).trans ?_
  simp [bare, txc]

/-- The second loop's state. -/
structure Mid2 (g : Gh) (H : List Nat) (row : Nat → Value) (inn ex : Nat → Bool) (es : Array MapEntry) (clock bt it : Nat) (W : World) (seen : Array Nat) (dn : Nat → Bool) (row' : Nat → Value) (wr : World) : Prop where
  qs : QS g (left g H H.length) row' (fun o => inn o && !(dn o && (left g H H.length o).isEmpty)) (exl ex H H.length) wr
  rb : ∀ o, o < 6 → g.th o = true → (row' o).ownBlock = (row o).ownBlock
  tx : wr.heap[g.t]? = some (.cells (txc g.m 1 (.slice none 0 0) (.slice none 0 0) true 0) 37 (0, 0))
  mp : wr.heap[bt]? = some (.map es clock)
  iter : wr.heap[it]? = some (.mapIter (some bt) clock seen clock)
  done : ∀ o, o < 6 → g.th o = true → (dn o = true ↔ ∃ e ∈ es.toList, e.key = pt (g.q o) ∧ seen.contains e.born = true)
  frame : KeptP (fun b => b = g.t ∨ used g row inn b) W wr

theorem Mid1.over {H : List Nat} {row' : Nat → Value} {hv tv cv : Value} {B bt : Nat} {wr : World} {es : Array MapEntry} {clock : Nat} (h : Mid1 g H row inn ex hv tv cv B bt W H.length row' wr) (hW : QS g g.all row inn ex W) (hbt : W.heap.size ≤ bt) (hb : wr.heap[bt]? = some (.map es clock)) :
    Mid2 g H row inn ex es clock bt wr.heap.size W #[] (fun _ => false) row' ((cleared wr g.t).alloc (.mapIter (some bt) clock #[] clock)) := by
  have tx := h.tx
  rw [List.drop_length] at tx
  have hsz := cleared_size wr g.t
  have hen := cleared_env wr g.t
  have hca := cleared_at tx
  have hcf := cleared_far wr g.t
  generalize cleared wr g.t = V at hsz hen hca hcf
  have far : ∀ b, b < wr.heap.size → b ≠ g.t → (V.alloc (.mapIter (some bt) clock #[] clock)).heap[b]? = wr.heap[b]? := fun b hb hne => (Below.heap_alloc _ _ _ (by omega)).trans (hcf _ hne)
  have htb : bt ≠ g.t := by rintro rfl; rw [hb] at tx; cases tx
  have hnt := h.qs.txn_not_used tx
  refine ⟨(h.qs.far (fun b hb => far b (h.qs.used_lt hb) (fun e => hnt (e ▸ hb)))).congr (fun _ _ => rfl) (fun o _ => by simp) (fun _ _ _ _ => rfl), h.rb, ?_, (far bt (Array.getElem?_eq_some_iff.1 hb).1 htb).trans hb, ?_, ?_, ?_⟩
  · refine (Below.heap_alloc _ _ _ (by rw [hsz]; exact (Array.getElem?_eq_some_iff.1 tx).1)).trans ?_
    exact hca
  · rw [← hsz]; exact heap_alloc_new _ _
  · intro o _ _
    simp
  · refine h.frame.andThen (T := fun b => b = g.t) ⟨hen.1, hen.2.1, hen.2.2, by simp [hsz], fun b hb hn => far b hb hn⟩ (fun x hx => .inl (.inl hx))

/-- An entry has come up. -/
theorem Mid2.comes {H : List Nat} {row' : Nat → Value} {es : Array MapEntry} {clock bt it : Nat} {seen : Array Nat} {dn : Nat → Bool} {wr w1 : World} {e : MapEntry} (h : Mid2 g H row inn ex es clock bt it W seen dn row' wr) (hW : QS g g.all row inn ex W) (s : Stt g) (hin : ∀ o, o < 6 → g.th o = true → inn o = true) (hent : EntAs (tchRel g H H.length) es clock) (hit : W.heap.size ≤ it) (hbi : bt ≠ it)
    (he : e ∈ (leftOf es seen).toList) (h1 : w1 = wr ∨ w1 = wr.drew) :
    ∃ o, o < 6 ∧ g.th o = true ∧ e.key = pt (g.q o) ∧ (inn o && !(dn o && (left g H H.length o).isEmpty)) = true ∧
      QS g (left g H H.length) row' (fun o => inn o && !(dn o && (left g H H.length o).isEmpty)) (exl ex H H.length) (setBlock w1 it (.mapIter (some bt) clock (seen.push e.born) clock)) := by
  have hmem : e ∈ es.toList ∧ seen.contains e.born = false := by
    simp only [leftOf, Array.toList_filter, List.mem_filter] at he
    exact ⟨he.1, by simpa using he.2⟩
  obtain ⟨hv, o, ⟨ho, r, hr, hra⟩, hk⟩ := (hent.2 e.key e.val).2 ⟨e, hmem.1, rfl, rfl⟩
  have hth := s.there o r ho hra
  have hd : dn o = false := by
    cases hd : dn o with
    | false => rfl
    | true =>
      obtain ⟨e', he', hk', hs'⟩ := (h.done o ho hth).1 hd
      obtain ⟨i, hi⟩ := List.getElem?_of_mem hmem.1
      obtain ⟨j, hj⟩ := List.getElem?_of_mem he'
      have := key_idx hent.1 hi hj (hk.trans hk'.symm)
      subst this
      rw [hi] at hj
      cases hj
      rw [hmem.2] at hs'
      cases hs'
  refine ⟨o, ho, hth, hk, by simp [hd, hin o ho hth], ?_⟩
  refine h.qs.far (fun b hb => ?_)
  have hlt : b < W.heap.size := hW.used_lt (used_congr h.rb (fun o _ k => by simp at k; exact k.1) hb)
  have hne : b ≠ it := by omega
  rcases h1 with rfl | rfl
  · simp [setBlock, Ne.symm hne]
  · simp [setBlock, Ne.symm hne]
    rfl

/-- One round of the second loop. -/
theorem Mid2.step {H : List Nat} {row' : Nat → Value} {es : Array MapEntry} {clock bt it o : Nat} {seen : Array Nat} {dn : Nat → Bool} {wr w1 w2 : World} {e : MapEntry} (h : Mid2 g H row inn ex es clock bt it W seen dn row' wr) (hW : QS g g.all row inn ex W) (s : Stt g) (hent : EntAs (tchRel g H H.length) es clock) (hit : W.heap.size ≤ it) (hbt : W.heap.size ≤ bt) (hbi : bt ≠ it)
    (he : e ∈ (leftOf es seen).toList) (h1 : w1 = wr ∨ w1 = wr.drew) (ho : o < 6) (hth : g.th o = true) (hk : e.key = pt (g.q o)) (hio : (inn o && !(dn o && (left g H H.length o).isEmpty)) = true)
    (hq : QS g (left g H H.length) row' (if left g H H.length o = [] then upd (fun o => inn o && !(dn o && (left g H H.length o).isEmpty)) o false else fun o => inn o && !(dn o && (left g H H.length o).isEmpty)) (exl ex H H.length) w2)
    (k2 : Kept (setl g o) (setBlock w1 it (.mapIter (some bt) clock (seen.push e.born) clock)) w2) :
    Mid2 g H row inn ex es clock bt it W (seen.push e.born) (upd dn o true) row' w2 := by
  have hmem : e ∈ es.toList := by
    simp only [leftOf, Array.toList_filter, List.mem_filter] at he
    exact he.1
  have hlti : it < wr.heap.size := (Array.getElem?_eq_some_iff.1 h.iter).1
  have hb1 : ∀ b, b ≠ it → (setBlock w1 it (.mapIter (some bt) clock (seen.push e.born) clock)).heap[b]? = wr.heap[b]? := by
    intro b hne
    rcases h1 with rfl | rfl
    · simp [setBlock, Ne.symm hne]
    · simp [setBlock, Ne.symm hne]; rfl
  have hbi1 : (setBlock w1 it (.mapIter (some bt) clock (seen.push e.born) clock)).heap[it]? = some (.mapIter (some bt) clock (seen.push e.born) clock) := by
    rcases h1 with rfl | rfl
    · simp [setBlock, hlti]
    · show (wr.heap.setIfInBounds it _)[it]? = _
      simp [hlti]
  have hsz : (setBlock w1 it (.mapIter (some bt) clock (seen.push e.born) clock)).heap.size = wr.heap.size := by
    rcases h1 with rfl | rfl
    · simp [setBlock]
    · simp [setBlock]
  have hle : ∀ o', o' < 6 → (inn o' && !(dn o' && (left g H H.length o').isEmpty)) = true → inn o' = true := fun o' _ k => by simp at k; exact k.1
  have hin0 : inn o = true := hle o ho hio
  have uset : ∀ b ∈ setl g o, used g row inn b := by
    intro b hb
    simp only [setl] at hb
    split at hb
    · simp at hb; exact .inr (.inl hb)
    · simp at hb
      rcases hb with hb | hb
      · exact .inr (.inr (.inl hb))
      · exact .inr (.inr (.inr (.inl ⟨⟨o, by omega, ho, hin0⟩, hb⟩)))
  have nset : ∀ b ∈ setl g o, b < W.heap.size := fun b hb => hW.used_lt (uset b hb)
  have hbs : bt < wr.heap.size := (Array.getElem?_eq_some_iff.1 h.mp).1
  have hts : g.t < wr.heap.size := (Array.getElem?_eq_some_iff.1 h.tx).1
  have hti : g.t ≠ it := by rintro e; have := h.iter; rw [← e, h.tx] at this; cases this
  have htset : g.t ∉ setl g o := fun hm => by
    have hu : used g row' (fun o => inn o && !(dn o && (left g H H.length o).isEmpty)) g.t := by
      simp only [setl] at hm
      split at hm
      · simp at hm; exact .inr (.inl hm)
      · simp at hm
        rcases hm with hb | hb
        · exact .inr (.inr (.inl hb))
        · exact .inr (.inr (.inr (.inl ⟨⟨o, by omega, ho, hio⟩, hb⟩)))
    exact h.qs.txn_not_used h.tx hu
  refine ⟨hq.congr (fun _ _ => rfl) (fun o' ho' => ?_) (fun _ _ _ _ => rfl), h.rb, ?_, ?_, ?_, ?_, ?_⟩
  · by_cases e' : o' = o
    · subst e'
      rw [upd_same]
      by_cases hl : left g H H.length o' = []
      · rw [if_pos hl, upd_same, hl]; simp
      · rw [if_neg hl]
        have : (left g H H.length o').isEmpty = false := by
          cases hc : left g H H.length o' with
          | nil => exact absurd hc hl
          | cons _ _ => rfl
        simp [this]
    · rw [upd_other _ _ e']
      by_cases hl : left g H H.length o = []
      · rw [if_pos hl, upd_other _ _ e']
      · rw [if_neg hl]
  · exact (k2.blk _ (by omega) htset).trans ((hb1 _ hti).trans h.tx)
  · exact (k2.blk _ (by omega) (fun hm => by have := nset _ hm; omega)).trans ((hb1 _ hbi).trans h.mp)
  · exact (k2.blk _ (by omega) (fun hm => by have := nset _ hm; omega)).trans hbi1
  · intro o' ho' ht'
    by_cases e' : o' = o
    · subst e'
      rw [upd_same]
      exact ⟨fun _ => ⟨e, hmem, hk, by simp⟩, fun _ => rfl⟩
    · rw [upd_other _ _ e', h.done o' ho' ht']
      constructor
      · rintro ⟨x, hx, hxk, hxs⟩
        exact ⟨x, hx, hxk, by simp at hxs ⊢; exact .inl hxs⟩
      · rintro ⟨x, hx, hxk, hxs⟩
        refine ⟨x, hx, hxk, ?_⟩
        simp at hxs ⊢
        rcases hxs with hxs | hxs
        · exact hxs
        · exfalso
          have hxe : x = e := by
            obtain ⟨i, hi⟩ := List.getElem?_of_mem hx
            obtain ⟨j, hj⟩ := List.getElem?_of_mem hmem
            have h1 : (es.toList.map (·.born))[i]? = some x.born := by simp only [List.getElem?_map, hi, Option.map_some]
            have h2 : (es.toList.map (·.born))[j]? = some x.born := by simp only [List.getElem?_map, hj, Option.map_some, hxs]
            have := (List.getElem?_inj (List.getElem?_eq_some_iff.1 h1).1 hent.1.2.1).1 (h1.trans h2.symm)
            subst this
            rw [hi] at hj
            exact Option.some.inj hj
          rw [hxe, hk] at hxk
          exact e' (s.qinj o' o ho' ho ht' hth (by simpa using hxk.symm))
  · refine h.frame.andThen (T := fun b => used g row inn b ∨ b = it) ⟨?_, ?_, ?_, ?_, fun b hb hn => ?_⟩ ?_
    · exact k2.os.trans (by rcases h1 with rfl | rfl <;> rfl)
    · exact k2.tape.trans (by rcases h1 with rfl | rfl <;> rfl)
    · exact k2.output.trans (by rcases h1 with rfl | rfl <;> rfl)
    · have := k2.size; omega
    · exact (k2.blk b (by omega) (fun hm => hn (.inl (uset b hm)))).trans (hb1 b (fun e => hn (.inr e)))
    · rintro x (hx | rfl)
      · exact .inl (.inr hx)
      · exact .inr hit

theorem left_all {H : List Nat} (hs : Hs g H) (o : Nat) (ho : o < 6) : left g H H.length o = (g.all o).filter (fun r => !g.own r) := by
  simp only [left, List.take_length]
  refine List.filter_congr (fun r hr => ?_)
  cases hc : g.own r with
  | true =>
    have := hs.ofOwn o r ho hr hc
    simp [this]
  | false =>
    have : r ∉ H := fun hm => by have := (hs.isOwn r hm).1; rw [hc] at this; cases this
    simp [this]

/-- Nothing is left to come. -/
theorem Mid2.ended {H : List Nat} {row' : Nat → Value} {es : Array MapEntry} {clock bt it : Nat} {seen : Array Nat} {dn : Nat → Bool} {wr : World} (h : Mid2 g H row inn ex es clock bt it W seen dn row' wr) (hs : Hs g H) (s : Stt g) (hin : ∀ o, o < 6 → g.th o = true → inn o = true) (hent : EntAs (tchRel g H H.length) es clock) (h0 : (leftOf es seen).size = 0) :
    Ended g row inn W wr := by
  refine ⟨⟨row', _, _, h.qs.congr (fun o ho => (left_all hs o ho).symm) (fun _ _ => rfl) (fun _ _ _ _ => rfl), h.rb, fun o ho hth => ?_⟩, h.tx, h.frame⟩
  rw [left_all hs o ho]
  simp only [hin o ho hth, Bool.true_and]
  constructor
  · intro hd he
    rw [he] at hd
    simp at hd
    obtain ⟨r, hr⟩ := List.exists_mem_of_ne_nil _ (s.some o ho hth)
    have hro : g.own r = true := by
      cases hc : g.own r with
      | true => rfl
      | false =>
        have : r ∈ (g.all o).filter (fun r => !g.own r) := List.mem_filter.2 ⟨hr, by simp [hc]⟩
        rw [he] at this
        simp at this
    have hrH := hs.ofOwn o r ho hr hro
    obtain ⟨e, he', hk, _⟩ := (hent.2 (pt (g.q o)) (.bool true)).1 ⟨rfl, o, ⟨ho, r, by rw [List.take_length]; exact hrH, hr⟩, rfl⟩
    have hseen : seen.contains e.born = true := by
      cases hc : seen.contains e.born with
      | true => rfl
      | false =>
        have hm : e ∈ (leftOf es seen).toList := by
          simp only [leftOf, Array.toList_filter, List.mem_filter]
          exact ⟨he', by rw [hc]; rfl⟩
        have : leftOf es seen = #[] := Array.eq_empty_of_size_eq_zero h0
        rw [this] at hm
        simp at hm
    rw [(h.done o ho hth).2 ⟨e, he', hk, hseen⟩] at hd
    cases hd
  · intro hne
    have : ((g.all o).filter (fun r => !g.own r)).isEmpty = false := by
      cases hc : (g.all o).filter (fun r => !g.own r) with
      | nil => exact absurd hc hne
      | cons _ _ => rfl
    rw [this]
    simp
end Go.Proofs.YbulkbhqsDoor
