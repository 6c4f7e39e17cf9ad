/-
  The state while a transaction ends. Own work on this program.
-/
import Derived.Test.YbulkbhqsDoorStep2
import Derived.Maps.Range
namespace Go.Proofs.YbulkbhqsDoor
open Go.RowKit
set_option linter.unusedVariables false

variable {g : Gh} {l : Nat → List Nat} {row : Nat → Value} {inn ex : Nat → Bool} {W W' : World}

/-- What lay outside S lies as it lay. -/
structure KeptP (S : Nat → Prop) (W W' : World) : Prop where
  os : W'.os = W.os
  tape : W'.tape = W.tape
  output : W'.output = W.output
  size : W.heap.size ≤ W'.heap.size
  blk : ∀ b, b < W.heap.size → ¬ S b → W'.heap[b]? = W.heap[b]?

theorem KeptP.refl (S : Nat → Prop) (W : World) : KeptP S W W := ⟨rfl, rfl, rfl, Nat.le_refl _, fun _ _ _ => rfl⟩
theorem KeptP.trans {S : Nat → Prop} {A B C : World} (h : KeptP S A B) (k : KeptP S B C) : KeptP S A C :=
  ⟨k.os.trans h.os, k.tape.trans h.tape, k.output.trans h.output, Nat.le_trans h.size k.size, fun b hb hs => (k.blk b (Nat.lt_of_lt_of_le hb h.size) hs).trans (h.blk b hb hs)⟩
theorem KeptP.andThen {S T : Nat → Prop} {A B C : World} (h : KeptP S A B) (k : KeptP T B C) (hT : ∀ x, T x → S x ∨ A.heap.size ≤ x) : KeptP S A C :=
  ⟨k.os.trans h.os, k.tape.trans h.tape, k.output.trans h.output, Nat.le_trans h.size k.size, fun b hb hs => (k.blk b (Nat.lt_of_lt_of_le hb h.size) (fun m => (hT b m).elim hs (fun l => by omega))).trans (h.blk b hb hs)⟩
theorem Kept.toP {S : List Nat} {A B : World} (h : Kept S A B) : KeptP (fun b => b ∈ S) A B := ⟨h.os, h.tape, h.output, h.size, h.blk⟩
theorem KeptP.drew {S : Nat → Prop} {A B : World} (h : KeptP S A B) : KeptP S A B.drew := ⟨h.os, h.tape, h.output, h.size, h.blk⟩

theorem QS.congr (h : QS g l row inn ex W) {l' : Nat → List Nat} {inn' ex' : Nat → Bool} (hl : ∀ o, o < 6 → l' o = l o) (hi : ∀ o, o < 6 → inn' o = inn o) (hx : ∀ o r, o < 6 → r ∈ g.all o → ex' r = ex r) : QS g l' row inn' ex' W := by
  have any : anyKey inn' ↔ anyKey inn := by
    constructor <;> rintro ⟨o, h1, h2, h3⟩
    · exact ⟨o, h1, h2, by rw [← hi o h2]; exact h3⟩
    · exact ⟨o, h1, h2, by rw [hi o h2]; exact h3⟩
  refine ⟨h.man2, h.man4, h.manb, h.queue, fun o ho ht => by rw [hl o ho]; exact h.rows o ho ht, h.rinj, fun o r ho hr => by rw [hx o r ho hr]; exact h.reqs o r ho hr, fun o ho => by rw [hl o ho]; exact h.sub o ho, fun o ho k => h.inTh o ho (by rw [← hi o ho]; exact k), h.tables.congr ?_, h.keys.congr ?_, fun a => (h.home (any.1 a)).congr ?_, h.dist.1, fun a => h.dist.2 (any.1 a)⟩
  · intro k v
    constructor <;> rintro ⟨o, h1, h2, h3⟩
    · exact ⟨o, h1, by rw [hi o (by omega)]; exact h2, h3⟩
    · exact ⟨o, h1, by rw [← hi o (by omega)]; exact h2, h3⟩
  · intro k v
    unfold keyRel
    rw [any]
  · intro k v
    constructor <;> rintro ⟨o, h1, h2, h3, h4⟩
    · exact ⟨o, h1, h2, by rw [hi o h2]; exact h3, h4⟩
    · exact ⟨o, h1, h2, by rw [← hi o h2]; exact h3, h4⟩

theorem used_congr {row' : Nat → Value} {inn' : Nat → Bool} (hr : ∀ o, o < 6 → g.th o = true → (row' o).ownBlock = (row o).ownBlock) (hle : ∀ o, o < 6 → inn' o = true → inn o = true) {b : Nat} (h : used g row' inn' b) : used g row inn b := by
  rcases h with h | h | h | ⟨⟨o, h1, h2, h3⟩, h⟩ | ⟨o, ho, ⟨ht, h | h⟩ | h⟩
  · exact .inl h
  · exact .inr (.inl h)
  · exact .inr (.inr (.inl h))
  · exact .inr (.inr (.inr (.inl ⟨⟨o, h1, h2, hle o h2 h3⟩, h⟩)))
  · exact .inr (.inr (.inr (.inr ⟨o, ho, .inl ⟨ht, .inl h⟩⟩)))
  · exact .inr (.inr (.inr (.inr ⟨o, ho, .inl ⟨ht, .inr (by rw [← hr o ho ht]; exact h)⟩⟩)))
  · exact .inr (.inr (.inr (.inr ⟨o, ho, .inr h⟩)))

/-- A transaction's cells. -/
def txc (m : Nat) (id : Int) (held tables : Value) (en : Bool) (k : Int) : Array Value :=
  #[pt m, .int .u64 id, held, .slice none 0 0, .int .i64 0, tables, .pointer none, .pointer none, .int .i64 0, .bool en, .bool false, .int .i64 k, .map none,
    .string ⟨#[]⟩, .pointer none, .pointer none, .string ⟨#[]⟩, .pointer none, .pointer none, .string ⟨#[]⟩, .pointer none, .pointer none, .string ⟨#[]⟩, .pointer none, .pointer none, .int .i64 0]

theorem tx_cells {b m : Nat} {id k : Int} {hv tv : Value} {en : Bool} (h : W.heap[b]? = some (.cells (txc m id hv tv en k) 37 (0, 0))) :
    W.cell? ⟨b, 2, none⟩ = some hv ∧ W.cell? ⟨b, 3, none⟩ = some (.slice none 0 0) ∧ W.cell? ⟨b, 4, none⟩ = some (.int .i64 0) ∧ W.cell? ⟨b, 5, none⟩ = some tv ∧ W.cell? ⟨b, 6, none⟩ = some (.pointer none) ∧ W.cell? ⟨b, 9, none⟩ = some (.bool en) ∧ W.cell? ⟨b, 11, none⟩ = some (.int .i64 k) := by
  simp [World.cell?, h, txc]

theorem heap_set_cells {b o : Nat} {c : Array Value} {e : TypeId} {v : Value} (h : W.heap[b]? = some (.cells c e (0, 0))) : (W.setCell ⟨b, o, none⟩ v).heap[b]? = some (.cells (c.setIfInBounds o v) e (0, 0)) := by
  obtain ⟨hlt, hk⟩ := Array.getElem?_eq_some_iff.1 h
  show (W.heap.modify b _)[b]? = _
  rw [Array.getElem?_eq_getElem (by rw [Array.size_modify]; exact hlt), Array.getElem_modify_self, hk]
  simp

/-- What is left of the queue o when the first k of H are gone. -/
def left (g : Gh) (H : List Nat) (k : Nat) : Nat → List Nat := fun o => (g.all o).filter (fun r => !(H.take k).contains r)
def exl (ex : Nat → Bool) (H : List Nat) (k : Nat) : Nat → Bool := fun r => ex r && !(H.take k).contains r
def touched (g : Gh) (H : List Nat) (k : Nat) (o : Nat) : Prop := o < 6 ∧ ∃ r ∈ H.take k, r ∈ g.all o
def tchRel (g : Gh) (H : List Nat) (k : Nat) (key v : Value) : Prop := v = .bool true ∧ ∃ o, touched g H k o ∧ key = pt (g.q o)

/-- What the road asks of the requests of the transaction. -/
structure Hs (g : Gh) (H : List Nat) : Prop where
  nodup : H.Nodup
  isOwn : ∀ r ∈ H, g.own r = true ∧ ∃ o, o < 6 ∧ r ∈ g.all o
  ofOwn : ∀ o r, o < 6 → r ∈ g.all o → g.own r = true → r ∈ H

/-- The first loop's state. -/
structure Mid1 (g : Gh) (H : List Nat) (row : Nat → Value) (inn ex : Nat → Bool) (hv tv cv : Value) (B bt : Nat) (W : World) (k : Nat) (row' : Nat → Value) (wr : World) : Prop where
  qs : QS g (left g H k) row' inn (exl ex H k) wr
  rb : ∀ o, o < 6 → g.th o = true → (row' o).ownBlock = (row o).ownBlock
  tx : wr.heap[g.t]? = some (.cells (txc g.m 1 hv tv true (((H.drop k).countP ex : Nat) : Int)) 37 (0, 0))
  cat : wr.ownsRow B 29 1 cv H.length (ptrs H)
  tch : MapAs wr bt (tchRel g H k)
  frame : KeptP (fun b => b = g.t ∨ used g row inn b) W wr

theorem take_succ' {H : List Nat} {k : Nat} (hk : k < H.length) (r : Nat) : r ∈ H.take (k + 1) ↔ r ∈ H.take k ∨ r = H[k] := by
  rw [List.take_succ_eq_append_getElem hk]
  simp only [List.mem_append, List.mem_singleton]

theorem not_take {H : List Nat} (hn : H.Nodup) {k : Nat} (hk : k < H.length) : H[k] ∉ H.take k := by
  intro hm
  obtain ⟨i, hi, e⟩ := List.mem_take_iff_getElem.1 hm
  have := (List.getElem_inj (h₀ := by omega) (h₁ := hk) hn).1 e
  omega

theorem left_step {H : List Nat} {k : Nat} (hk : k < H.length) (s : Stt g) {o : Nat} (ho : o < 6) (hr : H[k] ∈ g.all o) (o' : Nat) (ho' : o' < 6) :
    left g H (k + 1) o' = upd (left g H k) o ((left g H k o).filter (fun x => x != H[k])) o' := by
  have hf : ∀ x, (!(H.take (k + 1)).contains x) = ((x != H[k]) && !(H.take k).contains x) := by
    intro x
    have := take_succ' hk x
    cases h1 : (H.take (k + 1)).contains x <;> cases h2 : (H.take k).contains x <;> cases h3 : (x != H[k]) <;> simp_all
  by_cases e : o' = o
  · subst e
    rw [upd_same]
    simp only [left, List.filter_filter]
    exact List.filter_congr (fun x _ => hf x)
  · rw [upd_other _ _ e]
    refine List.filter_congr (fun x hx => ?_)
    rw [hf x]
    have : x ≠ H[k] := by rintro rfl; exact e (s.disj o' o _ ho' ho hx hr)
    simp [this]

theorem ex_step {H : List Nat} {k : Nat} (hk : k < H.length) (r : Nat) : exl ex H (k + 1) r = upd (exl ex H k) H[k] false r := by
  by_cases e : r = H[k]
  · subst e
    rw [upd_same]
    have : (H.take (k + 1)).contains H[k] = true := by simpa using (take_succ' hk H[k]).2 (.inr rfl)
    simp only [exl, this]
    simp
  · rw [upd_other _ _ e]
    have := take_succ' hk r
    have h2 : (H.take (k + 1)).contains r = (H.take k).contains r := by
      cases h1 : (H.take (k + 1)).contains r <;> cases h2 : (H.take k).contains r <;> simp_all
    simp only [exl, h2]

theorem drop_count {H : List Nat} {k : Nat} (hk : k < H.length) : (H.drop k).countP ex = (H.drop (k + 1)).countP ex + (if ex H[k] = true then 1 else 0) := by
  rw [List.drop_eq_getElem_cons hk, List.countP_cons]

/-- One round of the first loop: the request that it comes to. -/
theorem Mid1.here {H : List Nat} {row' : Nat → Value} {hv tv cv : Value} {B bt k : Nat} {wr : World} (h : Mid1 g H row inn ex hv tv cv B bt W k row' wr) (hs : Hs g H) (hk : k < H.length) :
    ∃ o, o < 6 ∧ H[k] ∈ g.all o ∧ H[k] ∈ left g H k o ∧ exl ex H k H[k] = ex H[k] ∧ g.own H[k] = true := by
  obtain ⟨ho, o, h6, ha⟩ := hs.isOwn H[k] (List.getElem_mem hk)
  have hn : (H.take k).contains H[k] = false := by
    have := not_take hs.nodup hk
    cases hc : (H.take k).contains H[k]
    · rfl
    · exact absurd (by simpa using hc) this
  refine ⟨o, h6, ha, ?_, ?_, ho⟩
  · simp only [left, List.mem_filter]
    exact ⟨ha, by rw [hn]; rfl⟩
  · simp only [exl, hn]
    simp

theorem tch_step {H : List Nat} {k : Nat} (hk : k < H.length) (s : Stt g) {o : Nat} (ho : o < 6) (hr : H[k] ∈ g.all o) (key v : Value) :
    ((key = pt (g.q o) ∧ v = .bool true) ∨ (key ≠ pt (g.q o) ∧ tchRel g H k key v)) ↔ tchRel g H (k + 1) key v := by
  constructor
  · rintro (⟨rfl, rfl⟩ | ⟨_, rfl, o', ⟨h1, r, h2, h3⟩, rfl⟩)
    · exact ⟨rfl, o, ⟨ho, H[k], (take_succ' hk _).2 (.inr rfl), hr⟩, rfl⟩
    · exact ⟨rfl, o', ⟨h1, r, (take_succ' hk _).2 (.inl h2), h3⟩, rfl⟩
  · rintro ⟨rfl, o', ⟨h1, r, h2, h3⟩, rfl⟩
    by_cases e : pt (g.q o') = pt (g.q o)
    · exact .inl ⟨e, rfl⟩
    · refine .inr ⟨e, rfl, o', ⟨h1, r, ?_, h3⟩, rfl⟩
      rcases (take_succ' hk r).1 h2 with h | rfl
      · exact h
      · exact absurd (by rw [s.disj o' o _ h1 ho h3 hr]) e

/-- The world behind one round. -/
theorem Mid1.step {H : List Nat} {row' : Nat → Value} {hv tv cv v' : Value} {B bt k o : Nat} {wr w1 w2 : World} {es : Array MapEntry} {clock : Nat} (h : Mid1 g H row inn ex hv tv cv B bt W k row' wr) (hW : QS g g.all row inn ex W) (hs : Hs g H) (s : Stt g) (hk : k < H.length) (ho : o < 6) (hr : H[k] ∈ g.all o) (hl : H[k] ∈ left g H k o) (hx : exl ex H k H[k] = ex H[k])
    (hbt : W.heap.size ≤ bt) (hB : W.heap.size ≤ B) (e1 : w1 = wr.putObj bt (.map es clock)) (he : EntAs (tchRel g H (k + 1)) es clock) (k2 : Removed g (left g H k) row' o H[k] v' w1 w2)
    (ht : w2.heap[g.t]? = (if exl ex H k H[k] = true then w1.setCell ⟨g.t, 11, none⟩ (.int .i64 (((H.drop k).countP ex - 1 : Nat) : Int)) else w1).heap[g.t]?) :
    Mid1 g H row inn ex hv tv cv B bt W (k + 1) (upd row' o v') w2 := by
  have hth := s.there o _ ho hr
  have usd : ∀ b, used g row' inn b → b < W.heap.size := fun b hb => hW.used_lt (used_congr h.rb (fun _ _ k => k) hb)
  have hb1 : ∀ b, b ≠ bt → w1.heap[b]? = wr.heap[b]? := fun b hb => by rw [e1]; exact World.putObj_heap_other hb
  have qs1 : QS g (left g H k) row' inn (exl ex H k) w1 := h.qs.far (fun b hb => hb1 b (by have := usd b hb; omega))
  have ht1 : w1.heap[g.t]? = some (.cells (txc g.m 1 hv tv true (((H.drop k).countP ex : Nat) : Int)) 37 (0, 0)) := by
    refine (hb1 g.t ?_).trans h.tx
    rintro e
    obtain ⟨es', c', hb', _⟩ := h.tch
    rw [← e, h.tx] at hb'
    cases hb'
  have hrb : H[k] < W.heap.size := usd _ (.inr (.inr (.inr (.inr ⟨o, ho, .inr hr⟩))))
  have hqb : g.q o < W.heap.size := usd _ (.inr (.inr (.inr (.inr ⟨o, ho, .inl ⟨hth, .inl rfl⟩⟩))))
  have hlt1 : wr.heap.size = w1.heap.size := by rw [e1]; simp [World.putObj]
  have htne : ∀ b, W.heap.size ≤ b → b < wr.heap.size → b ≠ bt → b ≠ g.t → w2.heap[b]? = wr.heap[b]? := by
    intro b hb hb2 hne hnt
    refine (k2.kept b (by omega) hnt (by omega) (by omega) (fun e => ?_)).trans (hb1 b hne)
    have := usd b (.inr (.inr (.inr (.inr ⟨o, ho, .inl ⟨hth, .inr e⟩⟩))))
    omega
  have htW : g.t < W.heap.size ∨ W.heap.size ≤ g.t := by omega
  refine ⟨?_, ?_, ?_, ?_, ?_, ?_⟩
  · refine (qs1.removed s ho hl ht1 k2).congr (fun o' ho' => left_step hk s ho hr o' ho') (fun _ _ => rfl) (fun _ r _ _ => ex_step hk r)
  · intro o' ho' ht'
    by_cases e : o' = o
    · subst e; rw [upd_same, k2.blk']; exact h.rb o' ho' ht'
    · rw [upd_other _ _ e]; exact h.rb o' ho' ht'
  · rw [ht, hx]
    have hc := drop_count (ex := ex) hk
    cases hxk : ex H[k] with
    | true =>
      rw [hxk] at hc
      simp only [if_true] at hc ⊢
      rw [heap_set_cells ht1, hc]
      simp [txc]
    | false =>
      rw [hxk] at hc
      simp at hc ⊢
      rw [ht1, hc]
  · refine owns_of_block h.cat (fun b hb => ?_)
    obtain ⟨c, hc⟩ := row_blk h.cat hb
    refine htne b ?_ (Array.getElem?_eq_some_iff.1 hc).1 ?_ (cells_ne hc h.tx (by decide))
    · rcases h.cat.2 with ⟨e, _⟩ | ⟨g', cap, cur, e, hge, _⟩
      · rw [e] at hb; simp [Value.ownBlock] at hb
      · rw [e] at hb; simp [Value.ownBlock] at hb; omega
    · exact Ne.symm (h.tch.ne_cells hc)
  · have hbs : bt < wr.heap.size := h.tch.lt
    have hb2 : w2.heap[bt]? = w1.heap[bt]? := by
      refine k2.kept bt (by omega) (h.tch.ne_cells h.tx) (by omega) (by omega) (fun e => ?_)
      have := usd bt (.inr (.inr (.inr (.inr ⟨o, ho, .inl ⟨hth, .inr e⟩⟩))))
      omega
    exact ⟨es, clock, hb2.trans (by rw [e1]; exact World.putObj_heap_same hbs), he⟩
  · refine h.frame.andThen (T := fun b => b = g.t ∨ used g row inn b ∨ b = bt) ⟨?_, ?_, ?_, ?_, fun b hb hn => ?_⟩ ?_
    · rw [k2.env.1, e1]; rfl
    · rw [k2.env.2.1, e1]; rfl
    · rw [k2.env.2.2, e1]; rfl
    · rw [hlt1]; exact k2.size
    · have hu : ¬ used g row' inn b := fun hu => hn (.inr (.inl (used_congr h.rb (fun _ _ k => k) hu)))
      refine (k2.kept b (by omega) (fun e => hn (.inl e)) (fun e => hu ?_) (fun e => hu ?_) (fun e => hu ?_)).trans (hb1 b (fun e => hn (.inr (.inr e))))
      · subst e; exact .inr (.inr (.inr (.inr ⟨o, ho, .inr hr⟩)))
      · subst e; exact .inr (.inr (.inr (.inr ⟨o, ho, .inl ⟨hth, .inl rfl⟩⟩)))
      · exact .inr (.inr (.inr (.inr ⟨o, ho, .inl ⟨hth, .inr e⟩⟩)))
    · rintro x (h1 | h1 | rfl)
      · exact .inl (.inl h1)
      · exact .inl (.inr h1)
      · exact .inr hbt
end Go.Proofs.YbulkbhqsDoor
