/-
  '!=' on 'newestLock', and the slots behind 'leave'. Own work on this program.
-/
import Derived.Test.YbulkbhqsAfter3
import Derived.Laws.StructEq
namespace Go.Proofs.Ybulkbhqs
open Go.RowKit

theorem eqIn45 (d : Nat) (p : Option Addr) (w : World) : (Op.equalIn (d + 1) 45 (.pointer p) (.pointer p)).run Yba.prog w = .ok true w := by
  obtain ⟨j, hj, _⟩ := Option.map_eq_some_iff.1 Yba.info63
  cases p with
  | none => simp [Op.equalIn, run_underlying Yba.underlying45]
  | some a => simp [Op.equalIn, run_underlying Yba.underlying45, sizeOf, typeInfo, hj, run_sameAddr_same]

theorem eqIn42 (d : Nat) (w : World) : (Op.equalIn (d + 1) 42 (.pointer none) (.pointer none)).run Yba.prog w = .ok true w := by
  simp [Op.equalIn, run_underlying Yba.underlying42]

/-- The first slot is one. -/
theorem First.uniq {nm : Nat → Nat} {nl : Nat → Option Nat} {ν : Nat} {o o' : Option Nat} (h : First nm nl ν o) (h' : First nm nl ν o') : o = o' := by
  cases o with
  | none => cases o' with
    | none => rfl
    | some s => exact absurd h'.2.1 (h s h'.1)
  | some s => cases o' with
    | none => exact absurd h.2.1 (h' s h.1)
    | some s' =>
      have a : ¬ s' < s := fun k => h.2.2 s' k h'.2.1
      have b : ¬ s < s' := fun k => h'.2.2 s k h.2.1
      rw [show s = s' by omega]

/-- The place of the first slot, as the law keeps it. -/
def pint : Option Nat → Int
  | none => -1
  | some s => s

/-- What 'leave' made of slot q. -/
theorem slot_exp {nm : Nat → Nat} {r pos : Nat} {h : Int} {bs cur : List Nat} {nl nl' : Nat → Option Nat} {v v' : Value} {o : Option Nat} (hw : Went nm r pos h bs nl v cur nl' v') (ho : First nm nl (nm r) o) (q : Nat) :
    (h = 1 → pint o = q → nl q = some r → nl' q = none) ∧ ((h = 1 → pint o = q → nl q ≠ some r) → nl' q = nl q) := by
  rcases hw with ⟨h2, _, rfl, _⟩ | ⟨h1, last, _, _, ⟨o', ho', hn⟩, _⟩
  · exact ⟨fun e => by omega, fun _ => rfl⟩
  · obtain rfl := ho.uniq ho'
    cases o with
    | none =>
      subst hn
      exact ⟨fun _ e => by simp only [pint] at e; omega, fun _ => rfl⟩
    | some s =>
      simp only [pint] at *
      subst hn
      refine ⟨fun _ e e2 => ?_, fun e => ?_⟩
      · obtain rfl : s = q := by omega
        simp [e2, upd]
      · by_cases hs : nl s = some r
        · rw [if_pos hs]
          by_cases hq : q = s
          · subst hq; exact absurd hs (e h1 rfl)
          · simp [upd, hq]
        · rw [if_neg hs]
end Go.Proofs.Ybulkbhqs
