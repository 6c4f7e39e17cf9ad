/-
  The law's walk, part O: one queue is looked up. Own work on this program.
-/
import Derived.Test.YbulkbhqsDoorLawN
namespace Go.Proofs.YbulkbhqsDoor
open Go.RowKit
set_option linter.unusedVariables false

theorem look_tab {g : Gh} {inn : Nat → Bool} {w : World} {b i : Nat} {es : Array MapEntry} {clock : Nat} (hb : w.heap[b]? = some (.map es clock)) (hent : EntAs (tabRel g inn) es clock) (hi : i < 3) :
    (Instr.lookup 52 (.map (some b)) (.string (nmb i)) true).run Ybad.prog w = .ok (.tuple #[if inn i = true then .pointer (some ⟨g.q i, 0, none⟩) else .pointer none, .bool (inn i)]) w := by
  cases h : inn i with
  | true => rw [if_pos rfl]; exact (lookup_some Ybad.underlying52 hb hent (hent.keyOk (tab_strings _ _) w (nmb i)) (v := pt (g.q i)) ⟨i, hi, h, rfl, rfl⟩).2
  | false =>
    rw [if_neg (by decide)]
    exact (lookup_none Ybad.underlying52 hb hent (hent.keyOk (tab_strings _ _) w (nmb i)) (fun v ⟨o, h1, h2, h3, _⟩ => by have := nmb_inj hi h1 (by simpa using h3); subst this; rw [h] at h2; cases h2) (zero38 w)).2

theorem look_home {g : Gh} {inn : Nat → Bool} {w : World} {b i : Nat} {es : Array MapEntry} {clock : Nat} (hb : w.heap[b]? = some (.map es clock)) (hent : EntAs (homeRel g inn) es clock) (h3 : 3 ≤ i) (hi : i < 6) :
    (Instr.lookup 52 (.map (some b)) (.string (nmb (i - 3))) true).run Ybad.prog w = .ok (.tuple #[if inn i = true then .pointer (some ⟨g.q i, 0, none⟩) else .pointer none, .bool (inn i)]) w := by
  cases h : inn i with
  | true => rw [if_pos rfl]; exact (lookup_some Ybad.underlying52 hb hent (hent.keyOk (home_strings _ _) w (nmb (i - 3))) (v := pt (g.q i)) ⟨i, h3, hi, h, rfl, rfl⟩).2
  | false =>
    rw [if_neg (by decide)]
    exact (lookup_none Ybad.underlying52 hb hent (hent.keyOk (home_strings _ _) w (nmb (i - 3))) (fun v ⟨o, h1, h2, h4, h5, _⟩ => by have := nmb_inj (i := i - 3) (j := o - 3) (by omega) (by omega) (by simpa using h5); have : o = i := (by omega); subst this; rw [h] at h4; cases h4) (zero38 w)).2

set_option maxRecDepth 100000 in
set_option maxHeartbeats 4000000 in
theorem partO : partN.1 := by
  delta partN
  dsimp only
  set_option tactic.hygienic false in intros
  obtain ⟨F, -⟩ := HZ.out
  obtain ⟨q1, -, m2, m4⟩ := F.cells hi6
  rw [hth] at q1
  simp only [if_true, pt] at q1
  have hqb := F.qs.queue i hi6 hth
  obtain ⟨c0, c1, -, -, -, -⟩ := cells6 hqb
  have c0 : wr.cell? ⟨s.q i, 0, none⟩ = some (.string (idN i)) := c0
  have c1 : wr.cell? ⟨s.q i, 1, none⟩ = some (.string (idK i)) := c1
  by_cases h3 : i < 3
  · have h3i : (i : Int) < 3 := by omega
    have hN : idN i = nmb i := by simp [idN, h3]
    rw [hN] at c0
    obtain ⟨es, clock, hb, hent⟩ := F.qs.tables
    have hl := look_tab (w := wr.drew) hb hent h3
    have hl : (Instr.lookup 52 (.map (some (W.heap.size + 1))) (.string (nmb i)) true).run Ybad.prog wr.drew = .ok (.tuple #[if inn i = true then .pointer (some ⟨s.q i, 0, none⟩) else .pointer none, .bool (inn i)]) wr.drew := hl
    clear F hqb hb hent c1 m4 HZ
    generalize (if inn i = true then Value.pointer (some ⟨s.q i, 0, none⟩) else .pointer none) = vg at hl a01
    go_wp2_with fail
    go_region_held3 (fun w' => w'.cell? ⟨W.heap.size + 5, 2, none⟩ = some (.map (some (W.heap.size + 1))) ∧ w'.cell? ⟨W.heap.size + 8, i, none⟩ = some (.pointer (some ⟨s.q i, 0, none⟩)) ∧ w'.cell? ⟨s.q i, 0, none⟩ = some (.string (nmb i))) (go_keep) (fail)
    go_wp2
    go_meet
    exact ⟨rfl, rfl, (Kept.refl _ _).drew⟩
  · have h3i : ¬ (i : Int) < 3 := by omega
    have hK : idK i = nmb (i - 3) := by simp [idK, h3]
    rw [hK] at c1
    obtain ⟨esk, clockk, hbk, hentk⟩ := F.qs.keys
    by_cases ha : anyKey inn
    · have hlk := (lookup_some (W := wr.drew) Ybad.underlying53 hbk hentk (hentk.keyOk (key_strings _ _) _ ⟨#[105]⟩) (v := .map (some s.mh)) ⟨rfl, rfl, ha⟩).1
      obtain ⟨es, clock, hb, hent⟩ := F.qs.home ha
      have hl := look_home (w := wr.drew) hb hent (by omega) hi6
      have hl : (Instr.lookup 52 (.map (some s.mh)) (.string (nmb (i - 3))) true).run Ybad.prog wr.drew = .ok (.tuple #[if inn i = true then .pointer (some ⟨s.q i, 0, none⟩) else .pointer none, .bool (inn i)]) wr.drew := hl
      have hlk : (Instr.lookup 53 (.map (some (W.heap.size + 3))) (.string ⟨#[105]⟩) false).run Ybad.prog wr.drew = .ok (.map (some s.mh)) wr.drew := hlk
      clear F hqb hb hent hbk hentk c0 m2 HZ
      generalize (if inn i = true then Value.pointer (some ⟨s.q i, 0, none⟩) else .pointer none) = vg at hl a01
      go_wp2_with fail
      go_region_held3 (fun w' => w'.cell? ⟨W.heap.size + 5, 4, none⟩ = some (.map (some (W.heap.size + 3))) ∧ w'.cell? ⟨W.heap.size + 8, i, none⟩ = some (.pointer (some ⟨s.q i, 0, none⟩)) ∧ w'.cell? ⟨s.q i, 1, none⟩ = some (.string (nmb (i - 3)))) (go_keep) (fail)
      all_goals go_wp2
      all_goals go_meet
      all_goals exact ⟨rfl, rfl, (Kept.refl _ _).drew⟩
    · have hii : inn i = false := by
        cases hc : inn i with
        | false => rfl
        | true => exact absurd ⟨i, by omega, hi6, hc⟩ ha
      have hlk := (lookup_none (W := wr.drew) Ybad.underlying53 hbk hentk (hentk.keyOk (key_strings _ _) _ ⟨#[105]⟩) (fun v ⟨_, _, a⟩ => ha a) (zero52 _)).1
      have hlk : (Instr.lookup 53 (.map (some (W.heap.size + 3))) (.string ⟨#[105]⟩) false).run Ybad.prog wr.drew = .ok (.map none) wr.drew := hlk
      have hl := lookup_nil (k := .string (nmb (i - 3))) wr.drew Ybad.underlying52 (key_string _ [] _ (by simp)) (zero38 _)
      clear F hqb hbk hentk c0 m2 HZ
      go_wp2_with fail
      go_region_held3 (fun w' => w'.cell? ⟨W.heap.size + 5, 4, none⟩ = some (.map (some (W.heap.size + 3))) ∧ w'.cell? ⟨W.heap.size + 8, i, none⟩ = some (.pointer (some ⟨s.q i, 0, none⟩)) ∧ w'.cell? ⟨s.q i, 1, none⟩ = some (.string (nmb (i - 3)))) (go_keep) (fail)
      all_goals go_wp2
      all_goals go_meet
      all_goals exact ⟨by rw [hii]; rfl, by rw [hii], (Kept.refl _ _).drew⟩
end Go.Proofs.YbulkbhqsDoor
