/-
  'zzs2930bcount' by a contract. Own work on this program.
-/
import Derived.Test.YbulkbhqsRemove
namespace Go.Proofs.Ybulkbhqs
open Go.RowKit

theorem ret_count {a b : Int} {c d : Bool} (h : a = b) (k : c = d) : Ending.returned (.tuple #[.int .i64 a, .bool c]) = .returned (.tuple #[.int .i64 b, .bool d]) := by rw [h, k]

set_option maxRecDepth 100000 in
set_option maxHeartbeats 1000000 in
theorem count_any (ky : Nat → Nat) (r : Nat) (n : Nat) : ∀ (p : Option Nat) (l : List Nat) (W : World), Tr ky W n p l → l.length ≤ 1024 → (∀ x ∈ l, NodeOk ky W x) → (∃ c, W.heap[r]? = some (.cells c 63 (0, 0))) →
    Calls Yba.prog 14 #[ptr p, .pointer (some ⟨r, 0, none⟩)] W fun e W' => e = .returned (.tuple #[.int .i64 l.length, .bool (decide (r ∈ l))]) ∧ W' = W := by
  have hnone : ∀ (W : World), Calls Yba.prog 14 #[.pointer none, .pointer (some ⟨r, 0, none⟩)] W fun e W' => e = .returned (.tuple #[.int .i64 0, .bool false]) ∧ W' = W := by
    intro W
    go_enter Yba.func14, Yba.ntmps14
    go_wp2_with fail
    go_ret2
    exact ⟨rfl, rfl⟩
  induction n with
  | zero =>
    rintro p l W ⟨rfl, rfl⟩ _ _ _
    refine (hnone W).mono ?_
    rintro e w' ⟨rfl, rfl⟩
    exact ⟨by simp, rfl⟩
  | succ n ih =>
    intro p l W ht hlen hok hblk
    rcases ht with ⟨rfl, rfl⟩ | ⟨b, L, R, pl, pr, rfl, rfl, h1, h2, h3, h4, h5, h6⟩
    · refine (hnone W).mono ?_
      rintro e w' ⟨rfl, rfl⟩
      exact ⟨by simp, rfl⟩
    have hlL : L.length ≤ 1024 := by simp at hlen; omega
    have hlR : R.length ≤ 1024 := by simp at hlen; omega
    have hB := hok b (by simp)
    have IH := (show Hid _ from ih)
    clear ih hnone
    have heq : (binOp .eql 45 (.pointer (some ⟨b, 0, none⟩)) (.pointer (some ⟨r, 0, none⟩))).run Yba.prog W = .ok (.bool (decide (b = r))) W := by
      by_cases e : b = r
      · subst e; rw [eql_same]; simp
      · rw [eql_other e hB.blkc hblk]; simp [e]
    show Calls Yba.prog 14 #[.pointer (some ⟨b, 0, none⟩), .pointer (some ⟨r, 0, none⟩)] W _
    go_enter Yba.func14, Yba.ntmps14
    go_wp2_with fail
    refine (IH.out pl L _ h5 hlL (fun x hx => hok x (by simp [hx])) hblk).mono ?_
    rintro e w' ⟨rfl, rfl⟩
    go_wp2_with fail
    refine (IH.out pr R _ h6 hlR (fun x hx => hok x (by simp [hx])) hblk).mono ?_
    rintro e w' ⟨rfl, rfl⟩
    have hfin : (decide (r ∈ L ++ b :: R)) = (decide (r ∈ L) || decide (r ∈ R) || decide (b = r)) := by
      rw [Bool.eq_iff_iff]
      simp only [decide_eq_true_eq, Bool.or_eq_true, List.mem_append, List.mem_cons]
      constructor
      · rintro (h | h | h)
        · exact .inl (.inl h)
        · exact .inr h.symm
        · exact .inl (.inr h)
      · rintro ((h | h) | h)
        · exact .inl h
        · exact .inr (.inr h)
        · exact .inr (.inl h.symm)
    have hln : ((L ++ b :: R).length : Int) = (L.length : Int) + (R.length : Int) + 1 := by simp; omega
    have HFN := (show Hid _ from And.intro hln hfin)
    clear hfin hln
    generalize decide (r ∈ L) = c1 at *
    generalize decide (r ∈ R) = c2 at *
    generalize decide (b = r) = c3 at *
    cases c1
    all_goals
      cases c2
      all_goals
        go_wp2_with fail
        go_ret2
        exact ⟨ret_count HFN.out.1.symm (by rw [HFN.out.2]; simp), rfl⟩
end Go.Proofs.Ybulkbhqs
