/-
  The law's walk, part L: its end. Own work on this program.
-/
import Derived.Test.YbulkbhqsDoorLawK
namespace Go.Proofs.YbulkbhqsDoor
open Go.RowKit
set_option linter.unusedVariables false

theorem klb_any (inn : Nat → Bool) : klb inn 6 = true ↔ anyKey inn := by
  simp only [klb, List.any_eq_true, List.mem_range]
  constructor
  · rintro ⟨o, h1, h2⟩
    simp at h2
    exact ⟨o, h2.1, h1, h2.2⟩
  · rintro ⟨o, h1, h2, h3⟩
    exact ⟨o, h2, by simp [h1, h3]⟩

theorem neq_bool (a : Bool) (w : World) : (binOp .neq 4 (.bool a) (.bool a)).run Ybad.prog w = .ok (.bool false) w := by
  cases a <;> kernel_rfl

set_option maxRecDepth 100000 in
set_option maxHeartbeats 4000000 in
theorem partL : partK.1 := by
  delta partK
  dsimp only
  set_option tactic.hygienic false in intros
  have F : Fin _ _ _ _ _ _ _ _ _ := H.out
  obtain ⟨c3, -, -, m4⟩ := F.cells (o := 3) (by omega)
  obtain ⟨c4, -, -, -⟩ := F.cells (o := 4) (by omega)
  obtain ⟨c5, -, -, -⟩ := F.cells (o := 5) (by omega)
  obtain ⟨esk, clockk, hbk, hentk⟩ := F.qs.keys
  have hlow := F.frame.below
  have hany : (klb inn 6 = true → s.th 3 = true ∨ s.th 4 = true ∨ s.th 5 = true) := by
    intro hk
    obtain ⟨o, h1, h2, h3⟩ := (klb_any inn).1 hk
    have ht : s.th o = true := F.qs.inTh o h2 h3
    have : o = 3 ∨ o = 4 ∨ o = 5 := by omega
    rcases this with rfl | rfl | rfl
    · exact .inl ht
    · exact .inr (.inl ht)
    · exact .inr (.inr ht)
  have hl : ∃ v, (Instr.lookup 53 (.map (some (W.heap.size + 3))) (.string ⟨#[105]⟩) true).run Ybad.prog wr = .ok (.tuple #[v, .bool (klb inn 6)]) wr := by
    cases hk : klb inn 6 with
    | true => exact ⟨_, (lookup_some Ybad.underlying53 hbk hentk (hentk.keyOk (key_strings _ _) wr ⟨#[105]⟩) (v := .map (some s.mh)) ⟨rfl, rfl, (klb_any inn).1 hk⟩).2⟩
    | false => exact ⟨_, (lookup_none Ybad.underlying53 hbk hentk (hentk.keyOk (key_strings _ _) wr ⟨#[105]⟩) (fun v ⟨_, _, a⟩ => by rw [(klb_any inn).2 a] at hk; cases hk) (zero52 wr)).2⟩
  obtain ⟨v, hl⟩ := hl
  have HL := (show Hid _ from hlow)
  clear F H hbk hentk hlow
  cases hk : klb inn 6 with
  | true =>
    rw [hk] at hl
    have hany := hany hk
    cases h3 : s.th 3 with
    | true =>
      rw [h3] at c3
      simp only [if_true, pt] at c3
      clear c4 c5 hany
      go_wp2_with fail
      go_ret
      exact ⟨rfl, HL.out⟩
    | false =>
      rw [h3] at c3 hany
      simp only [Bool.false_eq_true, if_false] at c3
      cases h4 : s.th 4 with
      | true =>
        rw [h4] at c4
        simp only [if_true, pt] at c4
        clear c5 hany
        go_wp2_with fail
        go_ret
        exact ⟨rfl, HL.out⟩
      | false =>
        rw [h4] at c4 hany
        simp only [Bool.false_eq_true, if_false] at c4
        have h5 : s.th 5 = true := by simpa using hany
        rw [h5] at c5
        simp only [if_true, pt] at c5
        clear hany
        go_wp2_with fail
        go_ret
        exact ⟨rfl, HL.out⟩
  | false =>
    rw [hk] at hl
    clear hany
    cases h3 : s.th 3 with
    | true =>
      rw [h3] at c3
      simp only [if_true, pt] at c3
      clear c4 c5
      go_wp2_with fail
      go_ret
      exact ⟨rfl, HL.out⟩
    | false =>
      rw [h3] at c3
      simp only [Bool.false_eq_true, if_false] at c3
      cases h4 : s.th 4 with
      | true =>
        rw [h4] at c4
        simp only [if_true, pt] at c4
        clear c5
        go_wp2_with fail
        go_ret
        exact ⟨rfl, HL.out⟩
      | false =>
        rw [h4] at c4
        simp only [Bool.false_eq_true, if_false] at c4
        cases h5 : s.th 5 with
        | true =>
          rw [h5] at c5
          simp only [if_true, pt] at c5
          go_wp2_with fail
          go_ret
          exact ⟨rfl, HL.out⟩
        | false =>
          rw [h5] at c5
          simp only [Bool.false_eq_true, if_false] at c5
          go_wp2_with fail
          go_ret
          exact ⟨rfl, HL.out⟩
end Go.Proofs.YbulkbhqsDoor
