/-
  A range over a function whose iterator may write cells of its own: two laws at the widest fence. Own work for this program ('collect').
-/
import Derived.RangeFuncNested
import Derived.RangeFuncBound
import Derived.RangeFuncCalls
import Derived.RangeFuncLeaves
import Derived.Shelf.Abstract
import Derived.Shelf.RegionOpen
import Derived.WalkKit
import Derived.OwnWalkIn
import Derived.TacticsInMore
import Derived.LoopNIn
import Derived.LoopIn
namespace Go.Proofs.Ybulkbhru
open Go.RowKit Go.Shelf
variable {P : Program}

/-- The statement: two blocks are laid (for the rounds' deferred calls; the record r), the iterator is called, and hands back with the record not busy and no jump pending. -/
theorem range_law {g : Operand} {ps : Array Tmp} {assign body : Code} {Q : Exit → Act → World → Prop} {a : Act} {w : World} {n gf : Nat} {lb : Array Value} (h1 : 1 ≤ n)
    (hg : a.eval g = .func (.func gf) #[] lb) (eg : ∀ args w, (callFunc gf args).run P w = .ok (.enter gf args) w)
    (h : ∀ r : Loop, r.state = .ready → r.pending = none → r.tmps = a.tmps → r.params = ps → r.assign = assign → r.body = body →
      CallsIn Fence.wide (n - 1) P gf (#[.func (.yield (w.heap.size + 1)) #[] #[]] ++ lb) ((w.alloc (.deferred (some []))).alloc (.loop r)) fun e W' => (∃ v, e = .returned v) ∧
        ∃ r' : Loop, W'.heap[w.heap.size + 1]? = some (.loop r') ∧ r'.state ≠ .busy ∧ r'.pending = none ∧
          Q .normal { a with defers := { target := .collected w.heap.size, args := #[] } :: a.defers } (W'.putObj (w.heap.size + 1) (.loop { r' with state := .exhausted }))) :
    (Code.rangeFunc g ps assign body).wpIn Fence.wide n P Q a w := by
  refine wpIn_rangeFunc ?_
  intro fn _
  obtain ⟨W1, hW1⟩ : ∃ W1, (w.alloc (.deferred (some []))).alloc (.loop { state := .ready, pending := none, fn, tmps := a.tmps, params := ps, assign, body, defers := w.heap.size }) = W1 := ⟨_, rfl⟩
  refine ⟨w.heap.size + 1, [{ target := .collected w.heap.size, args := #[] }], W1, { target := .fn (.func gf) lb, args := #[.func (.yield (w.heap.size + 1)) #[] #[]] }, W1, gf, #[.func (.yield (w.heap.size + 1)) #[] #[]] ++ lb, W1,
    hW1 ▸ run_enterLoop_outer fn a.tmps ps assign body, ?_, fun _ _ => trivial, ?_, fun _ => h1, ?_⟩
  · simp only [resolve, hg]
    simp [go_sem]
  · simp [invoke, go_sem, eg]
  · subst hW1
    refine (h { state := .ready, pending := none, fn, tmps := a.tmps, params := ps, assign, body, defers := w.heap.size } rfl rfl rfl rfl rfl rfl).mono ?_
    rintro e W' ⟨⟨v, rfl⟩, r', hl, hs, hp, hq⟩
    refine ⟨none, _, (run_endLoop (P := P) hl hs).trans ?_, hq⟩
    rw [hp]

/-- A call of yield: the assignment, then the body, which is left off its end with the record (busy: rb) as the round's beginning laid it; behind it the record is ready again. -/
theorem round_law {l m : Nat} {r : Loop} {args : Array Value} {W : World} {R : Ending → World → Prop} {asg bd : Code} {ps : Array Tmp} {tm : Array Value} (hl : W.heap[l]? = some (.loop r)) (hs : r.state = .ready) (hp : r.pending = none)
    (e1 : r.tmps = tm) (e2 : r.params = ps) (e3 : r.assign = asg) (e4 : r.body = bd) (hsz : args.size = ps.size)
    (h : ∀ rb : Loop, asg.wpIn (Fence.wide.inRound l) m P (Exit.then (fun a₁ W₁ => W₁.heap[l]? = some (.loop r) ∧
        bd.wpIn (Fence.wide.inRound l) m P (Exit.then (fun _ W₂ => W₂.heap[l]? = some (.loop rb) ∧
          R (.returned (.bool true)) (W₂.putObj l (.loop r))) (fun _ _ _ => False)) a₁ (W₁.putObj l (.loop rb))) (fun _ _ _ => False))
      { tmps := (ps.zip args).foldl (fun tmps (t, a) => tmps.setIfInBounds t a) tm, defers := [] } W) :
    YieldAt Fence.wide m P l args W R := by
  subst e1 e2 e3 e4
  refine ⟨_, _, _, _, run_yield hl hsz, roundIn_of_wpIn trivial (wpIn_mono (h { r with state := .busy }) ?_)⟩
  intro e a₁ W₁ hq
  cases e with
  | normal =>
    obtain ⟨hl1, hb⟩ := hq
    refine ⟨_, run_beginRound hl1 hs, wpIn_mono hb ?_⟩
    intro e a₂ W₂ hq2
    cases e with
    | normal =>
      obtain ⟨hl2, hR⟩ := hq2
      refine ⟨_, _, run_endRound (P := P) none hl2, ?_⟩
      have er : ({ state := .ready, pending := none, fn := r.fn, tmps := r.tmps, params := r.params, assign := r.assign, body := r.body, defers := r.defers } : Loop) = r := by
        cases r; simp at hs hp; subst hs hp; rfl
      simp only [Option.isNone_none, if_true]
      rw [er]
      exact hR
    | exit id => exact hq2.elim
    | goto t => exact hq2.elim
    | ret => exact hq2.elim
    | panic chain => exact hq2.elim
    | outgrown => exact hq2.elim
  | exit id => exact hq.elim
  | goto t => exact hq.elim
  | ret => exact hq.elim
  | panic chain => exact hq.elim
  | outgrown => exact hq.elim
end Go.Proofs.Ybulkbhru
