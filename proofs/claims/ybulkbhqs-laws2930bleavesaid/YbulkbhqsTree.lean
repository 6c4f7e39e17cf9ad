/-
  The treap of runs in memory: what stands in the heap, and what a change leaves. Own work on this program.
-/
import Derived.Test.YbulkbhqsRows
import Derived.WalkKit
import Derived.WalkSmall
import Derived.Deep.Draws
namespace Go.Proofs.Ybulkbhqs
open Go.RowKit

/-- The head of a block, or nil. -/
def pa : Option Nat → Option Addr
  | none => none
  | some b => some ⟨b, 0, none⟩
/-- A pointer to the head of a block, or nil. -/
abbrev ptr (p : Option Nat) : Value := .pointer (pa p)
theorem pa_none : pa none = none := rfl
theorem pa_some (b : Nat) : pa (some b) = some ⟨b, 0, none⟩ := rfl

/-- The four keys, by their rank. -/
def ks : Nat → ByteArray
  | 0 => ⟨#[]⟩
  | 1 => ⟨#[107]⟩
  | 2 => ⟨#[109]⟩
  | _ => ⟨#[122]⟩

/-- Only cells 'left', 'right', 'reach' of the blocks in l have turned; each 'reach' still holds a string. -/
structure Chg (l : List Nat) (W W' : World) : Prop where
  os : W'.os = W.os
  tape : W'.tape = W.tape
  output : W'.output = W.output
  size : W'.heap.size = W.heap.size
  cell : ∀ b o, (b ∉ l ∨ (o ≠ 22 ∧ o ≠ 23 ∧ o ≠ 25)) → W'.cell? ⟨b, o, none⟩ = W.cell? ⟨b, o, none⟩
  blk : ∀ b, b ∉ l → W'.heap[b]? = W.heap[b]?
  fz : ∀ a, W'.frozen? a = W.frozen? a
  rch : ∀ b, (∃ s, W.cell? ⟨b, 25, none⟩ = some (.string s)) → ∃ s, W'.cell? ⟨b, 25, none⟩ = some (.string s)
  lft : ∀ b, (∃ p, W.cell? ⟨b, 22, none⟩ = some (ptr p)) → ∃ p, W'.cell? ⟨b, 22, none⟩ = some (ptr p)
  rgt : ∀ b, (∃ p, W.cell? ⟨b, 23, none⟩ = some (ptr p)) → ∃ p, W'.cell? ⟨b, 23, none⟩ = some (ptr p)
  isc : ∀ b, b ∈ l → ∀ c e fr, W.heap[b]? = some (.cells c e fr) → ∃ c', W'.heap[b]? = some (.cells c' e fr)

theorem Chg.refl (l : List Nat) (W : World) : Chg l W W := ⟨rfl, rfl, rfl, rfl, fun _ _ _ => rfl, fun _ _ => rfl, fun _ => rfl, fun _ h => h, fun _ h => h, fun _ h => h, fun _ _ c _ _ h => ⟨c, h⟩⟩

theorem Chg.mono {l l' : List Nat} {W W' : World} (h : Chg l W W') (hl : ∀ x ∈ l, x ∈ l') : Chg l' W W' := by
  refine ⟨h.os, h.tape, h.output, h.size, fun b o hb => h.cell b o (hb.imp (fun n m => n (hl b m)) id), fun b hb => h.blk b (fun m => hb (hl b m)), h.fz, h.rch, h.lft, h.rgt, fun b _ c e fr hc => ?_⟩
  by_cases m : b ∈ l
  · exact h.isc b m c e fr hc
  · exact ⟨c, (h.blk b m).trans hc⟩

theorem Chg.trans {l : List Nat} {A B C : World} (h : Chg l A B) (k : Chg l B C) : Chg l A C :=
  ⟨k.os.trans h.os, k.tape.trans h.tape, k.output.trans h.output, k.size.trans h.size, fun b o hb => (k.cell b o hb).trans (h.cell b o hb), fun b hb => (k.blk b hb).trans (h.blk b hb),
    fun a => (k.fz a).trans (h.fz a), fun b hb => k.rch b (h.rch b hb), fun b hb => k.lft b (h.lft b hb), fun b hb => k.rgt b (h.rgt b hb), fun b hb c e fr hc => by obtain ⟨c', h'⟩ := h.isc b hb c e fr hc; exact k.isc b hb c' e fr h'⟩

theorem Chg.drewN {l : List Nat} {A B : World} (h : Chg l A B) (n : Nat) : Chg l A (B.drewN n) :=
  ⟨h.os, h.tape, h.output, h.size, h.cell, h.blk, h.fz, h.rch, h.lft, h.rgt, h.isc⟩

theorem Chg.drew {l : List Nat} {A B : World} (h : Chg l A B) : Chg l A B.drew :=
  ⟨h.os, h.tape, h.output, h.size, h.cell, h.blk, h.fz, h.rch, h.lft, h.rgt, h.isc⟩

theorem setCell_isc (W : World) (a : Addr) (v : Value) (c : Array Value) (e : TypeId) (fr : Nat × Nat) (h : W.heap[a.block]? = some (.cells c e fr)) : ∃ c', (W.setCell a v).heap[a.block]? = some (.cells c' e fr) := by
  obtain ⟨hlt, hk⟩ := Array.getElem?_eq_some_iff.1 h
  refine ⟨if a.spot.isSome = true then c else c.setIfInBounds a.off v, ?_⟩
  show (W.heap.modify a.block _)[a.block]? = _
  rw [Array.getElem?_eq_getElem (by rw [Array.size_modify]; exact hlt), Array.getElem_modify_self, hk]

/-- A store into 'left' or 'right' of a block of the list. -/
theorem Chg.set (l : List Nat) (W : World) (b o : Nat) (hb : b ∈ l) (ho : o = 22 ∨ o = 23) (q : Option Nat) : Chg l W (W.setCell ⟨b, o, none⟩ (ptr q)) := by
  have other : ∀ b' o', ¬ (b' = b ∧ o' = o) → (W.setCell ⟨b, o, none⟩ (ptr q)).cell? ⟨b', o', none⟩ = W.cell? ⟨b', o', none⟩ := fun b' o' h => World.cell?_setCell_other _ _ _ _ (by
    intro e; simp at e; exact h ⟨e.1.symm, e.2.symm⟩)
  have keep : ∀ o' b', (∃ p, W.cell? ⟨b', o', none⟩ = some (ptr p)) → ∃ p, (W.setCell ⟨b, o, none⟩ (ptr q)).cell? ⟨b', o', none⟩ = some (ptr p) := by
    rintro o' b' ⟨p, hp⟩
    by_cases e : b' = b ∧ o' = o
    · obtain ⟨rfl, rfl⟩ := e; exact ⟨q, World.cell?_setCell_same _ _ _ hp⟩
    · exact ⟨p, (other b' o' e).trans hp⟩
  refine ⟨rfl, rfl, rfl, by simp [World.setCell], fun b' o' h => other b' o' ?_, fun b' h => Below.heap_setCell _ _ _ _ (fun e => h (by rw [e]; exact hb)), fun a => World.frozen?_setCell _ _ _ _, fun b' ⟨s, hs⟩ => ⟨s, (other b' 25 (by omega)).trans hs⟩, keep 22, keep 23, fun b' _ c e fr hc => ?_⟩
  · rintro ⟨rfl, rfl⟩
    rcases h with h | h
    · exact h hb
    · omega
  · by_cases e' : b' = b
    · subst e'; exact setCell_isc W ⟨b', o, none⟩ _ c e fr hc
    · exact ⟨c, (Below.heap_setCell _ _ _ _ e').trans hc⟩

/-- A store of a string into 'reach' of a block of the list. -/
theorem Chg.setReach (l : List Nat) (W : World) (b : Nat) (hb : b ∈ l) (s : ByteArray) : Chg l W (W.setCell ⟨b, 25, none⟩ (.string s)) := by
  have other : ∀ b' o', ¬ (b' = b ∧ o' = 25) → (W.setCell ⟨b, 25, none⟩ (.string s)).cell? ⟨b', o', none⟩ = W.cell? ⟨b', o', none⟩ := fun b' o' h => World.cell?_setCell_other _ _ _ _ (by
    intro e; simp at e; exact h ⟨e.1.symm, e.2.symm⟩)
  refine ⟨rfl, rfl, rfl, by simp [World.setCell], fun b' o' h => other b' o' ?_, fun b' h => Below.heap_setCell _ _ _ _ (fun e => h (by rw [e]; exact hb)), fun a => World.frozen?_setCell _ _ _ _, fun b' ⟨s', hs⟩ => ?_, fun b' ⟨p, hp⟩ => ⟨p, (other b' 22 (by omega)).trans hp⟩, fun b' ⟨p, hp⟩ => ⟨p, (other b' 23 (by omega)).trans hp⟩, fun b' _ c e fr hc => ?_⟩
  · rintro ⟨rfl, rfl⟩
    rcases h with h | h
    · exact h hb
    · omega
  · by_cases e : b' = b
    · subst e; exact ⟨s, World.cell?_setCell_same _ _ _ hs⟩
    · exact ⟨s', (other b' 25 (fun h => e h.1)).trans hs⟩
  · by_cases e' : b' = b
    · subst e'; exact setCell_isc W ⟨b', 25, none⟩ _ c e fr hc
    · exact ⟨c, (Below.heap_setCell _ _ _ _ e').trans hc⟩

/-- Block b is a run that stands: its keys are of rank 'ky b'. -/
structure NodeOk (ky : Nat → Nat) (W : World) (b : Nat) : Prop where
  dn : ∃ d, W.cell? ⟨b, 4, none⟩ = some (.bool d)
  fst : W.cell? ⟨b, 8, none⟩ = some (.string (ks (ky b)))
  lst : W.cell? ⟨b, 9, none⟩ = some (.string (ks (ky b)))
  lft : ∃ p, W.cell? ⟨b, 22, none⟩ = some (ptr p)
  rgt : ∃ p, W.cell? ⟨b, 23, none⟩ = some (ptr p)
  pri : ∃ p, W.cell? ⟨b, 24, none⟩ = some (.int .u64 p)
  rch : ∃ s, W.cell? ⟨b, 25, none⟩ = some (.string s)
  fz : ∀ o, W.frozen? ⟨b, o, none⟩ = false
  rk : ky b < 4
  blkc : ∃ c, W.heap[b]? = some (.cells c 63 (0, 0))

/-- The treap under p, in order: those left of a run below it, those right of it at it or above. -/
def Tr (ky : Nat → Nat) (W : World) : Nat → Option Nat → List Nat → Prop
  | 0, p, l => p = none ∧ l = []
  | n + 1, p, l => (p = none ∧ l = []) ∨ ∃ (b : Nat) (L R : List Nat) (pl pr : Option Nat), p = some b ∧ l = L ++ b :: R ∧ W.cell? ⟨b, 22, none⟩ = some (ptr pl) ∧ W.cell? ⟨b, 23, none⟩ = some (ptr pr) ∧
      (∀ x ∈ L, ky x < ky b) ∧ (∀ x ∈ R, ky b ≤ ky x) ∧ Tr ky W n pl L ∧ Tr ky W n pr R

theorem Tr.nil (ky : Nat → Nat) (W : World) (n : Nat) : Tr ky W n none [] := by
  cases n with
  | zero => exact ⟨rfl, rfl⟩
  | succ n => exact .inl ⟨rfl, rfl⟩

theorem Tr.of_none {ky : Nat → Nat} {W : World} {n : Nat} {l : List Nat} (h : Tr ky W n none l) : l = [] := by
  cases n with
  | zero => exact h.2
  | succ n =>
    rcases h with h | ⟨b, L, R, pl, pr, hp, _⟩
    · exact h.2
    · cases hp

theorem Tr.mono {ky : Nat → Nat} {W : World} {n : Nat} : ∀ {m : Nat} {p : Option Nat} {l : List Nat}, Tr ky W n p l → n ≤ m → Tr ky W m p l := by
  induction n with
  | zero => rintro m p l ⟨rfl, rfl⟩ _; exact Tr.nil ky W m
  | succ n ih =>
    intro m p l h hm
    cases m with
    | zero => omega
    | succ m =>
      rcases h with h | ⟨b, L, R, pl, pr, hp, hl, h1, h2, h3, h4, h5, h6⟩
      · exact .inl h
      · exact .inr ⟨b, L, R, pl, pr, hp, hl, h1, h2, h3, h4, ih h5 (by omega), ih h6 (by omega)⟩

/-- A treap whose runs' 'left' and 'right' stand in W' as in W. -/
theorem Tr.same {ky : Nat → Nat} {W W' : World} {n : Nat} : ∀ {p : Option Nat} {l : List Nat}, Tr ky W n p l →
    (∀ x ∈ l, W'.cell? ⟨x, 22, none⟩ = W.cell? ⟨x, 22, none⟩ ∧ W'.cell? ⟨x, 23, none⟩ = W.cell? ⟨x, 23, none⟩) → Tr ky W' n p l := by
  induction n with
  | zero => intro p l h _; exact h
  | succ n ih =>
    intro p l h hs
    rcases h with h | ⟨b, L, R, pl, pr, hp, rfl, h1, h2, h3, h4, h5, h6⟩
    · exact .inl h
    · have hb := hs b (by simp)
      exact .inr ⟨b, L, R, pl, pr, hp, rfl, hb.1.trans h1, hb.2.trans h2, h3, h4, ih h5 (fun x hx => hs x (by simp [hx])), ih h6 (fun x hx => hs x (by simp [hx]))⟩

theorem Tr.chg {ky : Nat → Nat} {W W' : World} {n : Nat} {p : Option Nat} {l l' : List Nat} (h : Tr ky W n p l) (hc : Chg l' W W') (hd : ∀ x ∈ l, x ∉ l') : Tr ky W' n p l :=
  h.same fun x hx => ⟨hc.cell x 22 (.inl (hd x hx)), hc.cell x 23 (.inl (hd x hx))⟩

theorem Tr.congr {ky ky' : Nat → Nat} {W : World} {n : Nat} : ∀ {p : Option Nat} {l : List Nat}, Tr ky W n p l → (∀ x ∈ l, ky' x = ky x) → Tr ky' W n p l := by
  induction n with
  | zero => intro p l h _; exact h
  | succ n ih =>
    intro p l h hs
    rcases h with h | ⟨b, L, R, pl, pr, hp, rfl, h1, h2, h3, h4, h5, h6⟩
    · exact .inl h
    · have hb := hs b (by simp)
      refine .inr ⟨b, L, R, pl, pr, hp, rfl, h1, h2, fun x hx => ?_, fun x hx => ?_, ih h5 (fun x hx => hs x (by simp [hx])), ih h6 (fun x hx => hs x (by simp [hx]))⟩
      · rw [hb, hs x (by simp [hx])]; exact h3 x hx
      · rw [hb, hs x (by simp [hx])]; exact h4 x hx

theorem NodeOk.chg {ky : Nat → Nat} {W W' : World} {l : List Nat} {b : Nat} (h : NodeOk ky W b) (hc : Chg l W W') : NodeOk ky W' b := by
  obtain ⟨⟨d, h1⟩, h2, h3, hl, hr, ⟨p, h4⟩, h5, h6, h7, c, h8⟩ := h
  refine ⟨⟨d, (hc.cell b 4 (.inr (by omega))).trans h1⟩, (hc.cell b 8 (.inr (by omega))).trans h2, (hc.cell b 9 (.inr (by omega))).trans h3, hc.lft b hl, hc.rgt b hr, ⟨p, (hc.cell b 24 (.inr (by omega))).trans h4⟩, hc.rch b h5, fun o => (hc.fz _).trans (h6 o), h7, ?_⟩
  by_cases m : b ∈ l
  · exact hc.isc b m c 63 (0, 0) h8
  · exact ⟨c, (hc.blk b m).trans h8⟩
end Go.Proofs.Ybulkbhqs
