/-
  The state of the queues: what lies where. Own work on this program.
-/
import Derived.Test.YbulkbhqsDoorConcat
namespace Go.Proofs.YbulkbhqsDoor
open Go.RowKit
set_option linter.unusedVariables false

abbrev pt (b : Nat) : Value := .pointer (some ⟨b, 0, none⟩)

/-- One place of a function laid anew. -/
def upd {α : Type} (f : Nat → α) (o : Nat) (x : α) : Nat → α := fun i => if i = o then x else f i
theorem upd_same {α : Type} (f : Nat → α) (o : Nat) (x : α) : upd f o x o = x := by simp [upd]
theorem upd_other {α : Type} (f : Nat → α) {o i : Nat} (x : α) (h : i ≠ o) : upd f o x i = f i := by simp [upd, h]

/-- The names. -/
def nmb : Nat → ByteArray
  | 0 => ⟨#[97]⟩
  | 1 => ⟨#[98]⟩
  | _ => ⟨#[99]⟩
theorem nmb_inj {i j : Nat} (hi : i < 3) (hj : j < 3) (h : nmb i = nmb j) : i = j := by
  match i, hi, j, hj with
  | 0, _, 0, _ => rfl
  | 1, _, 1, _ => rfl
  | 2, _, 2, _ => rfl
  | 0, _, 1, _ => exact absurd h (by decide)
  | 0, _, 2, _ => exact absurd h (by decide)
  | 1, _, 0, _ => exact absurd h (by decide)
  | 1, _, 2, _ => exact absurd h (by decide)
  | 2, _, 0, _ => exact absurd h (by decide)
  | 2, _, 1, _ => exact absurd h (by decide)

def idN (o : Nat) : ByteArray := if o < 3 then nmb o else ⟨#[105]⟩
def idK (o : Nat) : ByteArray := if o < 3 then ⟨#[]⟩ else nmb (o - 3)
def idP (o : Nat) : Int := if o < 3 then 0 else 1
def idT (o : Nat) : Bool := if o < 3 then true else false

/-- What does not turn while the transaction ends. -/
structure Gh where
  base : Nat
  m : Nat
  t : Nat
  u : Nat
  mt : Nat
  kk : Nat
  mh : Nat
  q : Nat → Nat
  th : Nat → Bool
  all : Nat → List Nat
  own : Nat → Bool

def tabRel (g : Gh) (inn : Nat → Bool) (k v : Value) : Prop := ∃ o, o < 3 ∧ inn o = true ∧ k = .string (nmb o) ∧ v = pt (g.q o)
def homeRel (g : Gh) (inn : Nat → Bool) (k v : Value) : Prop := ∃ o, 3 ≤ o ∧ o < 6 ∧ inn o = true ∧ k = .string (nmb (o - 3)) ∧ v = pt (g.q o)
def anyKey (inn : Nat → Bool) : Prop := ∃ o, 3 ≤ o ∧ o < 6 ∧ inn o = true
def keyRel (g : Gh) (inn : Nat → Bool) (k v : Value) : Prop := k = .string ⟨#[105]⟩ ∧ v = .map (some g.mh) ∧ anyKey inn

structure Req (g : Gh) (W : World) (r o : Nat) (x : Bool) : Prop where
  blk : ∃ c, W.heap[r]? = some (.cells c 72 (0, 0))
  txn : W.cell? ⟨r, 0, none⟩ = some (pt (if g.own r then g.t else g.u))
  que : W.cell? ⟨r, 1, none⟩ = some (pt (g.q o))
  granted : W.cell? ⟨r, 10, none⟩ = some (.bool true)
  exposed : W.cell? ⟨r, 11, none⟩ = some (.bool x)

structure Stt (g : Gh) : Prop where
  qinj : ∀ o o', o < 6 → o' < 6 → g.th o = true → g.th o' = true → g.q o = g.q o' → o = o'
  nodup : ∀ o, o < 6 → (g.all o).Nodup
  disj : ∀ o o' r, o < 6 → o' < 6 → r ∈ g.all o → r ∈ g.all o' → o = o'
  len : ∀ o, o < 6 → (g.all o).length ≤ 512
  there : ∀ o r, o < 6 → r ∈ g.all o → g.th o = true
  some : ∀ o, o < 6 → g.th o = true → g.all o ≠ []

/-- The queues as they lie. -/
structure QS (g : Gh) (l : Nat → List Nat) (row : Nat → Value) (inn ex : Nat → Bool) (W : World) : Prop where
  man2 : W.cell? ⟨g.m, 2, none⟩ = some (.map (some g.mt))
  man4 : W.cell? ⟨g.m, 4, none⟩ = some (.map (some g.kk))
  manb : ∃ c, W.heap[g.m]? = some (.cells c 68 (0, 0))
  queue : ∀ o, o < 6 → g.th o = true → W.heap[g.q o]? = some (.cells #[.string (idN o), .string (idK o), .int .i8 (idP o), .bool (idT o), row o, .pointer none] 51 (0, 0))
  rows : ∀ o, o < 6 → g.th o = true → W.ownsRow g.base 29 1 (row o) (l o).length (ptrs (l o))
  rinj : ∀ o o', o < 6 → o' < 6 → g.th o = true → g.th o' = true → o ≠ o' → ∀ b, (row o).ownBlock = some b → (row o').ownBlock ≠ some b
  reqs : ∀ o r, o < 6 → r ∈ g.all o → Req g W r o (ex r)
  sub : ∀ o, o < 6 → (l o).Sublist (g.all o)
  inTh : ∀ o, o < 6 → inn o = true → g.th o = true
  tables : MapAs W g.mt (tabRel g inn)
  keys : MapAs W g.kk (keyRel g inn)
  home : anyKey inn → MapAs W g.mh (homeRel g inn)
  dist : g.mt ≠ g.kk ∧ (anyKey inn → g.mh ≠ g.kk ∧ g.mh ≠ g.mt)

/-- The blocks of the queues. -/
def used (g : Gh) (row : Nat → Value) (inn : Nat → Bool) (b : Nat) : Prop :=
  b = g.m ∨ b = g.mt ∨ b = g.kk ∨ (anyKey inn ∧ b = g.mh) ∨ ∃ o, o < 6 ∧ ((g.th o = true ∧ (b = g.q o ∨ (row o).ownBlock = some b)) ∨ b ∈ g.all o)

variable {g : Gh} {l : Nat → List Nat} {row : Nat → Value} {inn ex : Nat → Bool} {W W' : World}

theorem Req.far {r o : Nat} {x : Bool} (h : Req g W r o x) (e : W'.heap[r]? = W.heap[r]?) : Req g W' r o x := by
  obtain ⟨c, hc⟩ := h.blk
  exact ⟨⟨c, e.trans hc⟩, (World.cell?_of_block (w := W) (a := ⟨r, 0, none⟩) e).trans h.txn, (World.cell?_of_block (w := W) (a := ⟨r, 1, none⟩) e).trans h.que, (World.cell?_of_block (w := W) (a := ⟨r, 10, none⟩) e).trans h.granted, (World.cell?_of_block (w := W) (a := ⟨r, 11, none⟩) e).trans h.exposed⟩

theorem QS.far (h : QS g l row inn ex W) (e : ∀ b, used g row inn b → W'.heap[b]? = W.heap[b]?) : QS g l row inn ex W' := by
  have em := e g.m (.inl rfl)
  obtain ⟨c, hc⟩ := h.manb
  refine ⟨(World.cell?_of_block (w := W) (a := ⟨g.m, 2, none⟩) em).trans h.man2, (World.cell?_of_block (w := W) (a := ⟨g.m, 4, none⟩) em).trans h.man4, ⟨c, em.trans hc⟩, ?_, ?_, h.rinj, ?_, h.sub, h.inTh, h.tables.same (e _ (.inr (.inl rfl))), h.keys.same (e _ (.inr (.inr (.inl rfl)))), fun k => (h.home k).same (e _ (.inr (.inr (.inr (.inl ⟨k, rfl⟩))))), h.dist⟩
  · intro o ho ht
    exact (e _ (.inr (.inr (.inr (.inr ⟨o, ho, .inl ⟨ht, .inl rfl⟩⟩))))).trans (h.queue o ho ht)
  · intro o ho ht
    exact owns_of_block (h.rows o ho ht) (fun b hb => e _ (.inr (.inr (.inr (.inr ⟨o, ho, .inl ⟨ht, .inr hb⟩⟩)))))
  · intro o r ho hr
    exact (h.reqs o r ho hr).far (e _ (.inr (.inr (.inr (.inr ⟨o, ho, .inr hr⟩)))))

theorem MapAs.lt {b : Nat} {f : Value → Value → Prop} (h : MapAs W b f) : b < W.heap.size := by
  obtain ⟨es, clock, hb, _⟩ := h
  exact (Array.getElem?_eq_some_iff.1 hb).1
theorem MapAs.ne_cells {b b' : Nat} {f : Value → Value → Prop} (h : MapAs W b f) {c : Array Value} {e : TypeId} {fr : Nat × Nat} (hc : W.heap[b']? = some (.cells c e fr)) : b ≠ b' := by
  rintro rfl
  obtain ⟨es, clock, hb, _⟩ := h
  rw [hb] at hc
  cases hc

theorem QS.used_lt (h : QS g l row inn ex W) {b : Nat} (hb : used g row inn b) : b < W.heap.size := by
  rcases hb with rfl | rfl | rfl | ⟨k, rfl⟩ | ⟨o, ho, ⟨ht, rfl | hr⟩ | hr⟩
  · obtain ⟨c, hc⟩ := h.manb; exact (Array.getElem?_eq_some_iff.1 hc).1
  · exact h.tables.lt
  · exact h.keys.lt
  · exact (h.home k).lt
  · exact (Array.getElem?_eq_some_iff.1 (h.queue o ho ht)).1
  · obtain ⟨c, hc⟩ := row_blk (h.rows o ho ht) hr; exact (Array.getElem?_eq_some_iff.1 hc).1
  · obtain ⟨c, hc⟩ := (h.reqs o b ho hr).blk; exact (Array.getElem?_eq_some_iff.1 hc).1

theorem QS.kept (h : QS g l row inn ex W) {S : List Nat} (k : Kept S W W') (hS : ∀ b ∈ S, ¬ used g row inn b) : QS g l row inn ex W' :=
  h.far (fun b hb => k.blk b (h.used_lt hb) (fun m => hS b m hb))

/-- A transaction's block is none of the queues'. -/
theorem QS.txn_not_used (h : QS g l row inn ex W) {t : Nat} {c : Array Value} (ht : W.heap[t]? = some (.cells c 37 (0, 0))) : ¬ used g row inn t := by
  rintro (rfl | rfl | rfl | ⟨k, rfl⟩ | ⟨o, ho, ⟨hth, rfl | hr⟩ | hr⟩)
  · obtain ⟨c', hc⟩ := h.manb; exact cells_ne ht hc (by decide) rfl
  · exact h.tables.ne_cells ht rfl
  · exact h.keys.ne_cells ht rfl
  · exact (h.home k).ne_cells ht rfl
  · exact cells_ne ht (h.queue o ho hth) (by decide) rfl
  · obtain ⟨c', hc⟩ := row_blk (h.rows o ho hth) hr; exact cells_ne ht hc (by decide) rfl
  · obtain ⟨c', hc⟩ := (h.reqs o t ho hr).blk; exact cells_ne ht hc (by decide) rfl

/-- The queue of o asks nothing of anybody. -/
theorem QS.calm (h : QS g l row inn ex W) (s : Stt g) {o : Nat} (ho : o < 6) (ht : g.th o = true) : Calm (g.q o) g.base (l o) (row o) W where
  lines := (cells6 (h.queue o ho ht)).2.2.2.2.2
  reqs := (cells6 (h.queue o ho ht)).2.2.2.2.1
  row := h.rows o ho ht
  granted := fun x hx => (h.reqs o x ho ((h.sub o ho).subset hx)).granted
  len := Nat.le_trans (h.sub o ho).length_le (Nat.le_trans (s.len o ho) (by decide))
end Go.Proofs.YbulkbhqsDoor
