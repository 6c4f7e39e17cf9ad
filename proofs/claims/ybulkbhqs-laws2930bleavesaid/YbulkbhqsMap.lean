/-
  The map of an index's runs: two names, one treap each. Own work on this program.
-/
import Derived.Test.YbulkbhqsTree
import Derived.RangeFuncRecord
import Derived.MapKept
import Derived.ProofKit
namespace Go.Proofs.Ybulkbhqs
open Go.RowKit

/-- The two names. -/
def nms : Nat → ByteArray
  | 0 => ⟨#[97]⟩
  | _ => ⟨#[98]⟩

def MShape : Option Nat → Option Nat → Array MapEntry → Prop
  | none, none, es => es = #[]
  | some a, none, es => ∃ n, es = #[⟨.string (nms 0), ptr (some a), n⟩]
  | none, some b, es => ∃ n, es = #[⟨.string (nms 1), ptr (some b), n⟩]
  | some a, some b, es => ∃ n m, es = #[⟨.string (nms 0), ptr (some a), n⟩, ⟨.string (nms 1), ptr (some b), m⟩] ∨ es = #[⟨.string (nms 1), ptr (some b), m⟩, ⟨.string (nms 0), ptr (some a), n⟩]

/-- Block m is the map: name ν leads to the treap tb ν, if there is one. -/
def MapIs (W : World) (m : Nat) (tb : Nat → Option Nat) : Prop := ∃ es clock, W.heap[m]? = some (.map es clock) ∧ MShape (tb 0) (tb 1) es

/-- The treap of one name laid anew. -/
def upd (tb : Nat → Option Nat) (ν : Nat) (x : Option Nat) : Nat → Option Nat := fun i => if i = ν then x else tb i

theorem find_shape {t0 t1 : Option Nat} {es : Array MapEntry} (h : MShape t0 t1 es) : (∃ r, Instr.findNow .string (.string (nms 0)) es.toList 0 = some r ∧ r.map (·.2) = t0.map fun b => ptr (some b)) ∧ (∃ r, Instr.findNow .string (.string (nms 1)) es.toList 0 = some r ∧ r.map (·.2) = t1.map fun b => ptr (some b)) := by
  have e00 : ((nms 0 == nms 0) = true) := by decide
  have e01 : ((nms 0 == nms 1) = false) := by decide
  have e10 : ((nms 1 == nms 0) = false) := by decide
  have e11 : ((nms 1 == nms 1) = true) := by decide
  cases t0 <;> cases t1 <;> simp only [MShape] at h
  · subst h; exact ⟨⟨_, rfl, rfl⟩, ⟨_, rfl, rfl⟩⟩
  · obtain ⟨n, rfl⟩ := h; exact ⟨⟨_, by simp [Instr.findNow, Instr.sameNow, e01]; rfl, rfl⟩, ⟨_, by simp [Instr.findNow, Instr.sameNow, e11]; rfl, rfl⟩⟩
  · obtain ⟨n, rfl⟩ := h; exact ⟨⟨_, by simp [Instr.findNow, Instr.sameNow, e00]; rfl, rfl⟩, ⟨_, by simp [Instr.findNow, Instr.sameNow, e10]; rfl, rfl⟩⟩
  · obtain ⟨n, m, rfl | rfl⟩ := h
    · exact ⟨⟨_, by simp [Instr.findNow, Instr.sameNow, e00]; rfl, rfl⟩, ⟨_, by simp [Instr.findNow, Instr.sameNow, e10, e11]; rfl, rfl⟩⟩
    · exact ⟨⟨_, by simp [Instr.findNow, Instr.sameNow, e01, e00]; rfl, rfl⟩, ⟨_, by simp [Instr.findNow, Instr.sameNow, e11]; rfl, rfl⟩⟩

theorem find_name {W : World} {m : Nat} {tb : Nat → Option Nat} (h : MapIs W m tb) {ν : Nat} (hν : ν < 2) : ∃ es clock r, W.heap[m]? = some (.map es clock) ∧ MShape (tb 0) (tb 1) es ∧ Instr.findNow .string (.string (nms ν)) es.toList 0 = some r ∧ r.map (·.2) = (tb ν).map fun b => ptr (some b) := by
  obtain ⟨es, clock, hb, hs⟩ := h
  obtain ⟨⟨r0, f0, g0⟩, ⟨r1, f1, g1⟩⟩ := find_shape hs
  match ν, hν with
  | 0, _ => exact ⟨es, clock, r0, hb, hs, f0, g0⟩
  | 1, _ => exact ⟨es, clock, r1, hb, hs, f1, g1⟩

theorem checkKey_string (e : Bool) (s : ByteArray) (w : World) : (Instr.checkKey e 10000 9 (.string s)).run Yba.prog w = .ok () w := by
  exact MapKept.run_checkKey (k := .string s) Yba.underlying9 (by simp [MapKept.IsKey]) e 9999

theorem lookup_any {W : World} {m : Nat} {tb : Nat → Option Nat} (h : MapIs W m tb) {ν : Nat} (hν : ν < 2) :
    (Instr.lookup 81 (.map (some m)) (.string (nms ν)) false).run Yba.prog W = .ok (ptr (tb ν)) W ∧ (Instr.lookup 81 (.map (some m)) (.string (nms ν)) true).run Yba.prog W = .ok (.tuple #[ptr (tb ν), .bool (tb ν).isSome]) W := by
  obtain ⟨es, clock, r, hb, _, hf, hr⟩ := find_name h hν
  have hg : (getObj m).run Yba.prog W = .ok (.map es clock) W := by simp [getObj, Sem.run, hb]
  have hk := MapKept.run_findKey (P := Yba.prog) (w := W) Yba.underlying9 hf
  cases r with
  | none =>
    have e : tb ν = none := by cases ht : tb ν with | none => rfl | some b => rw [ht] at hr; cases hr
    rw [e]
    constructor <;> simp [Instr.lookup, run_underlying Yba.underlying81, hg, checkKey_string, hk, Result.andThen, pa]
  | some q =>
    obtain ⟨i, v⟩ := q
    cases ht : tb ν with
    | none => rw [ht] at hr; cases hr
    | some b =>
      rw [ht] at hr
      simp at hr
      subst hr
      constructor <;> simp [Instr.lookup, run_underlying Yba.underlying81, hg, checkKey_string, hk, Result.andThen]

theorem MapIs.put {W : World} {m : Nat} {o : Obj} (ho : W.heap[m]? = some o) {es : Array MapEntry} {clock : Nat} {tb : Nat → Option Nat} (h : MShape (tb 0) (tb 1) es) : MapIs (W.putObj m (.map es clock)) m tb :=
  ⟨es, clock, World.putObj_heap_same (Array.getElem?_eq_some_iff.1 ho).1, h⟩

/-- A name that was not there. -/
theorem update_any {W : World} {m : Nat} {tb : Nat → Option Nat} (h : MapIs W m tb) {ν : Nat} (hν : ν < 2) (hn : tb ν = none) (b : Nat) :
    ∃ es clock, (Instr.mapUpdate 81 (.map (some m)) (.string (nms ν)) (ptr (some b))).run Yba.prog W = .ok () (W.putObj m (.map es clock)) ∧ MShape (upd tb ν (some b) 0) (upd tb ν (some b) 1) es := by
  obtain ⟨es, clock, r, hb, hs, hf, hr⟩ := find_name h hν
  rw [hn] at hr
  have er : r = none := by cases r with | none => rfl | some q => cases hr
  subst er
  refine ⟨es.push { key := .string (nms ν), val := ptr (some b), born := clock }, clock + 1, ?_, ?_⟩
  · simp [Instr.mapUpdate, run_underlying Yba.underlying81, MapKept.run_getObj_map hb, checkKey_string, MapKept.run_findKey Yba.underlying9 hf, MapKept.run_setObj_map _ hb, Result.andThen, World.putObj]
  · match ν, hν with
    | 0, _ =>
      rw [hn] at hs
      simp only [upd]
      cases h1 : tb 1 with
      | none => rw [h1] at hs; simp only [MShape] at hs; subst hs; exact ⟨clock, rfl⟩
      | some c => rw [h1] at hs; obtain ⟨n, rfl⟩ := hs; exact ⟨clock, n, .inr rfl⟩
    | 1, _ =>
      rw [hn] at hs
      simp only [upd]
      cases h0 : tb 0 with
      | none => rw [h0] at hs; simp only [MShape] at hs; subst hs; exact ⟨clock, rfl⟩
      | some c => rw [h0] at hs; obtain ⟨n, rfl⟩ := hs; exact ⟨n, clock, .inl rfl⟩

/-- A name that was there, taken out. -/
theorem delete_any {W : World} {m : Nat} {tb : Nat → Option Nat} (h : MapIs W m tb) {ν : Nat} (hν : ν < 2) {b : Nat} (hn : tb ν = some b) :
    ∃ es clock, (∀ ty, (Builtin.delete_ #[81, 9] ty #[.map (some m), .string (nms ν)]).run Yba.prog W = .ok (.tuple #[]) (W.putObj m (.map es clock))) ∧ MShape (upd tb ν none 0) (upd tb ν none 1) es := by
  have e00 : ((nms 0 == nms 0) = true) := by decide
  have e01 : ((nms 0 == nms 1) = false) := by decide
  have e10 : ((nms 1 == nms 0) = false) := by decide
  have e11 : ((nms 1 == nms 1) = true) := by decide
  obtain ⟨es, clock, hb, hs⟩ := h
  have key : ∀ (i : Nat) (v : Value), Instr.findNow .string (.string (nms ν)) es.toList 0 = some (some (i, v)) →
      ∀ ty, (Builtin.delete_ #[81, 9] ty #[.map (some m), .string (nms ν)]).run Yba.prog W = .ok (.tuple #[]) (W.putObj m (.map (es.eraseIdxIfInBounds i) clock)) := by
    intro i v hf ty
    simp [Builtin.delete_, run_underlying Yba.underlying81, MapKept.run_getObj_map hb, checkKey_string, MapKept.run_findKey Yba.underlying9 hf, MapKept.run_setObj_map _ hb, Result.andThen, World.putObj]
  match ν, hν with
  | 0, _ =>
    rw [hn] at hs
    simp only [upd]
    cases h1 : tb 1 with
    | none =>
      rw [h1] at hs; obtain ⟨n, rfl⟩ := hs
      exact ⟨_, clock, key 0 _ (by simp [Instr.findNow, Instr.sameNow, e00]; rfl), by simp [Array.eraseIdxIfInBounds, MShape]⟩
    | some c =>
      rw [h1] at hs; obtain ⟨n, q, rfl | rfl⟩ := hs
      · exact ⟨_, clock, key 0 _ (by simp [Instr.findNow, Instr.sameNow, e00]; rfl), q, by simp [Array.eraseIdxIfInBounds]⟩
      · exact ⟨_, clock, key 1 _ (by simp [Instr.findNow, Instr.sameNow, e00, e01]; rfl), q, by simp [Array.eraseIdxIfInBounds]⟩
  | 1, _ =>
    rw [hn] at hs
    simp only [upd]
    cases h0 : tb 0 with
    | none =>
      rw [h0] at hs; obtain ⟨n, rfl⟩ := hs
      exact ⟨_, clock, key 0 _ (by simp [Instr.findNow, Instr.sameNow, e11]; rfl), by simp [Array.eraseIdxIfInBounds, MShape]⟩
    | some c =>
      rw [h0] at hs; obtain ⟨n, q, rfl | rfl⟩ := hs
      · exact ⟨_, clock, key 1 _ (by simp [Instr.findNow, Instr.sameNow, e11, e10]; rfl), n, by simp [Array.eraseIdxIfInBounds]⟩
      · exact ⟨_, clock, key 0 _ (by simp [Instr.findNow, Instr.sameNow, e11]; rfl), n, by simp [Array.eraseIdxIfInBounds]⟩
end Go.Proofs.Ybulkbhqs
