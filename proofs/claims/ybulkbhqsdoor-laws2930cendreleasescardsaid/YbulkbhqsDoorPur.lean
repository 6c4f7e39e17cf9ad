/-
  What the requests are to each other while the law lays them. Own work on this program.
-/
import Derived.Test.YbulkbhqsDoorMem2
namespace Go.Proofs.YbulkbhqsDoor
open Go.RowKit
set_option linter.unusedVariables false

/-- x: the queue that is there and may be empty yet (6: none). -/
structure Pur (s : Gs) (n x : Nat) : Prop where
  ca : ∀ o, o < 6 → s.C o = s.A o
  cb : ∀ o, o < 6 → s.C (6 + o) = s.A o
  inn : ∀ o, o < 6 → s.inn o = s.th o
  thn : ∀ o, o < 6 → o ≠ x → s.th o = true → s.A o ≠ []
  nth : ∀ o, o < 6 → s.th o = false → s.A o = [] ∧ s.R o = .slice none 0 0
  nodup : ∀ o, o < 6 → (s.A o).Nodup
  disj : ∀ o o' r, o < 6 → o' < 6 → r ∈ s.A o → r ∈ s.A o' → o = o'
  len : ∀ j, j < 16 → (s.C j).length ≤ n
  hnd : (s.C 12 ++ s.C 13).Nodup
  his : ∀ r ∈ s.C 12 ++ s.C 13, s.own r = true ∧ ∃ o, o < 6 ∧ r ∈ s.A o
  hof : ∀ o r, o < 6 → r ∈ s.A o → s.own r = true → r ∈ s.C 12 ++ s.C 13
  cnt : s.K = (s.C 12 ++ s.C 13).countP s.ex
  k2 : s.K2 ≤ n

variable {N : Nat} {en : Bool} {s : Gs} {W0 w w' : World}

/-- A queue more. -/
theorem Pur.newq {n o qn : Nat} {mh : Nat} (p : Pur s n 6) (ho : o < 6) (hth : s.th o = false) : Pur { s with th := upd s.th o true, q := upd s.q o qn, inn := upd s.inn o true, mh := mh } n o := by
  refine ⟨p.ca, p.cb, fun o' ho' => ?_, fun o' ho' hne ht => ?_, fun o' ho' ht => ?_, p.nodup, p.disj, p.len, p.hnd, p.his, p.hof, p.cnt, p.k2⟩
  · show upd s.inn o true o' = upd s.th o true o'
    by_cases e : o' = o
    · subst e; rw [upd_same, upd_same]
    · rw [upd_other _ _ e, upd_other _ _ e]; exact p.inn o' ho'
  · have ht : upd s.th o true o' = true := ht
    rw [upd_other _ _ hne] at ht
    exact p.thn o' ho' (by omega) ht
  · have ht : upd s.th o true o' = false := ht
    by_cases e : o' = o
    · subst e; rw [upd_same] at ht; cases ht
    · rw [upd_other _ _ e] at ht; exact p.nth o' ho' ht

theorem Pur.weak {n x : Nat} (p : Pur s n 6) : Pur s n x := ⟨p.ca, p.cb, p.inn, fun o ho _ ht => p.thn o ho (by omega) ht, p.nth, p.nodup, p.disj, p.len, p.hnd, p.his, p.hof, p.cnt, p.k2⟩

/-- The state behind one round. -/
def Gs.next (s : Gs) (o r : Nat) (b x : Bool) (v1 v2 v3 : Value) : Gs :=
  { s with A := upd s.A o (s.A o ++ [r]), own := upd s.own r b, ex := upd s.ex r x, K := if b = true ∧ x = true then s.K + 1 else s.K, K2 := if b = false ∧ x = true then s.K2 + 1 else s.K2,
           R := upd (upd (upd s.R o v1) (6 + o) v2) (oj b (decide (o < 3))) v3, C := upd (upd (upd s.C o (s.C o ++ [r])) (6 + o) (s.C (6 + o) ++ [r])) (oj b (decide (o < 3))) (s.C (oj b (decide (o < 3))) ++ [r]) }

theorem oj_lt (b t : Bool) : oj b t < 16 ∧ 12 ≤ oj b t := by cases b <;> cases t <;> decide

theorem Pur.next {n o r : Nat} {b x : Bool} {v1 v2 v3 : Value} (p : Pur s n o) (ho : o < 6) (hth : s.th o = true) (hfr : ∀ o' r', o' < 6 → r' ∈ s.A o' → r' ≠ r) : Pur (s.next o r b x v1 v2 v3) (n + 1) 6 := by
  obtain ⟨hj, hj2⟩ := oj_lt b (decide (o < 3))
  have hC : ∀ j, (s.next o r b x v1 v2 v3).C j = if j = oj b (decide (o < 3)) then s.C j ++ [r] else if j = 6 + o then s.C j ++ [r] else if j = o then s.C j ++ [r] else s.C j := by
    intro j
    show upd (upd (upd s.C o (s.C o ++ [r])) (6 + o) (s.C (6 + o) ++ [r])) (oj b (decide (o < 3))) (s.C (oj b (decide (o < 3))) ++ [r]) j = _
    unfold upd
    by_cases e1 : j = oj b (decide (o < 3))
    · simp [e1]
    · by_cases e2 : j = 6 + o
      · subst e2; simp [e1]
      · by_cases e3 : j = o
        · subst e3; simp [e1]
        · simp [e1, e2, e3]
  have hA : ∀ o', (s.next o r b x v1 v2 v3).A o' = if o' = o then s.A o' ++ [r] else s.A o' := by
    intro o'
    show upd s.A o (s.A o ++ [r]) o' = _
    unfold upd
    by_cases e : o' = o
    · subst e; simp
    · simp [e]
  have hown : ∀ o' r', o' < 6 → r' ∈ s.A o' → upd s.own r b r' = s.own r' := fun o' r' h1 h2 => upd_other _ _ (hfr o' r' h1 h2)
  have hrH : ∀ r' ∈ s.C 12 ++ s.C 13, r' ≠ r := fun r' hr' => by
    obtain ⟨_, o', h1, h2⟩ := p.his r' hr'
    exact hfr o' r' h1 h2
  have h12 : (s.next o r b x v1 v2 v3).C 12 = if oj b (decide (o < 3)) = 12 then s.C 12 ++ [r] else s.C 12 := by
    rw [hC, if_neg (show ¬ (12 = 6 + o) by omega), if_neg (show ¬ (12 = o) by omega)]
    by_cases e : oj b (decide (o < 3)) = 12
    · rw [if_pos e.symm, if_pos e]
    · rw [if_neg (fun e' => e e'.symm), if_neg e]
  have h13 : (s.next o r b x v1 v2 v3).C 13 = if oj b (decide (o < 3)) = 13 then s.C 13 ++ [r] else s.C 13 := by
    rw [hC, if_neg (show ¬ (13 = 6 + o) by omega), if_neg (show ¬ (13 = o) by omega)]
    by_cases e : oj b (decide (o < 3)) = 13
    · rw [if_pos e.symm, if_pos e]
    · rw [if_neg (fun e' => e e'.symm), if_neg e]
  -- the requests of the transaction: the elder ones, and r if it is its own, in some order
  have hperm : ((s.next o r b x v1 v2 v3).C 12 ++ (s.next o r b x v1 v2 v3).C 13).Perm (if b = true then r :: (s.C 12 ++ s.C 13) else s.C 12 ++ s.C 13) := by
    rw [h12, h13]
    cases b with
    | false => cases hd : decide (o < 3) <;> simp [oj]
    | true =>
      cases hd : decide (o < 3)
      · simp [oj]
      · simp [oj]
        rw [← List.append_assoc]
        exact (List.perm_append_comm (l₁ := s.C 12 ++ s.C 13) (l₂ := [r]))
  refine ⟨fun o' ho' => ?_, fun o' ho' => ?_, p.inn, fun o' ho' _ ht => ?_, fun o' ho' ht => ?_, fun o' ho' => ?_, ?_, fun j hj' => ?_, ?_, ?_, ?_, ?_, ?_⟩
  · rw [hC, hA, if_neg (by omega), if_neg (by omega)]
    by_cases e : o' = o <;> simp [e, p.ca o' ho', p.ca o ho]
  · rw [hC, hA, if_neg (by omega)]
    by_cases e : o' = o
    · subst e; simp [p.cb o' ho']
    · rw [if_neg (by omega), if_neg (by omega), if_neg e]; exact p.cb o' ho'
  · rw [hA]
    by_cases e : o' = o
    · simp [e]
    · rw [if_neg e]; exact p.thn o' ho' e ht
  · have hne : o' ≠ o := by rintro rfl; have ht : s.th o' = false := ht; rw [hth] at ht; cases ht
    rw [hA, if_neg hne]
    refine ⟨(p.nth o' ho' ht).1, ?_⟩
    show upd (upd (upd s.R o v1) (6 + o) v2) (oj b (decide (o < 3))) v3 o' = _
    rw [upd_other _ _ (by omega), upd_other _ _ (by omega), upd_other _ _ hne]
    exact (p.nth o' ho' ht).2
  · rw [hA]
    by_cases e : o' = o
    · subst e
      rw [if_pos rfl]
      refine List.nodup_append.2 ⟨p.nodup o' ho', by simp, fun a ha c hc => ?_⟩
      simp at hc
      subst hc
      exact hfr o' a ho' ha
    · rw [if_neg e]; exact p.nodup o' ho'
  · intro o1 o2 r' h1 h2 m1 m2
    rw [hA] at m1 m2
    by_cases e1 : o1 = o
    · by_cases e2 : o2 = o
      · rw [e1, e2]
      · rw [if_pos e1] at m1
        rw [if_neg e2] at m2
        rcases List.mem_append.1 m1 with m1 | m1
        · exact p.disj o1 o2 r' h1 h2 m1 m2
        · simp at m1; exact absurd m1 (hfr o2 r' h2 m2)
    · rw [if_neg e1] at m1
      by_cases e2 : o2 = o
      · rw [if_pos e2] at m2
        rcases List.mem_append.1 m2 with m2 | m2
        · exact p.disj o1 o2 r' h1 h2 m1 m2
        · simp at m2; exact absurd m2 (hfr o1 r' h1 m1)
      · rw [if_neg e2] at m2
        exact p.disj o1 o2 r' h1 h2 m1 m2
  · rw [hC]
    have := p.len j hj'
    repeat' split
    all_goals simp
    all_goals omega
  · refine hperm.nodup_iff.2 ?_
    cases b with
    | false => simpa using p.hnd
    | true =>
      rw [if_pos rfl]
      exact List.nodup_cons.2 ⟨fun hm => hrH r hm rfl, p.hnd⟩
  · intro r' hr'
    have hm := hperm.mem_iff.1 hr'
    show upd s.own r b r' = true ∧ _
    have old : r' ∈ s.C 12 ++ s.C 13 → upd s.own r b r' = true ∧ ∃ o', o' < 6 ∧ r' ∈ (s.next o r b x v1 v2 v3).A o' := by
      intro hm
      obtain ⟨h1, o', h2, h3⟩ := p.his r' hm
      refine ⟨by rw [hown o' r' h2 h3]; exact h1, o', h2, ?_⟩
      rw [hA]
      split
      · exact List.mem_append.2 (.inl h3)
      · exact h3
    cases b with
    | false => rw [if_neg (by decide)] at hm; exact old hm
    | true =>
      rw [if_pos rfl] at hm
      rcases List.mem_cons.1 hm with rfl | hm
      · exact ⟨upd_same _ _ _, o, ho, by rw [hA, if_pos rfl]; simp⟩
      · exact old hm
  · intro o' r' ho' hr' hw
    refine hperm.mem_iff.2 ?_
    rw [hA] at hr'
    have hw : upd s.own r b r' = true := hw
    have hcase : r' ∈ s.A o' ∨ r' = r := by
      split at hr'
      · rcases List.mem_append.1 hr' with h | h
        · exact .inl h
        · exact .inr (by simpa using h)
      · exact .inl hr'
    rcases hcase with h | rfl
    · rw [hown o' r' ho' h] at hw
      have := p.hof o' r' ho' h hw
      cases b with
      | false => simpa using this
      | true => rw [if_pos rfl]; exact .tail _ this
    · rw [upd_same] at hw
      rw [if_pos hw]
      exact .head _
  · show (if b = true ∧ x = true then s.K + 1 else s.K) = _
    rw [hperm.countP_eq]
    have hold : (s.C 12 ++ s.C 13).countP (upd s.ex r x) = (s.C 12 ++ s.C 13).countP s.ex := List.countP_congr (fun r' hr' => by rw [upd_other _ _ (hrH r' hr')])
    show _ = List.countP (upd s.ex r x) _
    cases b with
    | false => simp only [Bool.false_eq_true, false_and, if_false]; rw [hold]; exact p.cnt
    | true =>
      simp only [if_true, List.countP_cons, upd_same]
      rw [hold, p.cnt]
      cases x <;> simp
  · show (if b = false ∧ x = true then s.K2 + 1 else s.K2) ≤ n + 1
    have := p.k2
    split <;> omega

/-- The queues ahead of 'end'. -/
theorem Mem.qs (h : Mem N en s W0 w) {n : Nat} (p : Pur s n 6) (hn : n ≤ 512) : QS (s.gh N) s.A s.R s.inn s.ex w ∧ Stt (s.gh N) ∧ Hs (s.gh N) (s.C 12 ++ s.C 13) := by
  refine ⟨⟨?_, ?_, ⟨_, h.man⟩, h.queue, fun o ho ht => ?_, fun o o' ho ho' _ _ hne b => h.rows.apart o o' (by omega) (by omega) hne b, h.reqs, fun o ho => List.Sublist.refl _, h.inTh, h.tables, h.keys, h.home, ?_⟩, ⟨h.qinj, p.nodup, p.disj, fun o ho => ?_, fun o r ho hr => ?_, fun o ho ht => p.thn o ho (by omega) ht⟩, ⟨p.hnd, p.his, p.hof⟩⟩
  · show w.cell? ⟨N + 5, 2, none⟩ = _
    simp [World.cell?, h.man, manc, Gs.gh]
  · show w.cell? ⟨N + 5, 4, none⟩ = _
    simp [World.cell?, h.man, manc, Gs.gh]
  · rw [← p.ca o ho]
    exact h.rows.own o (by omega)
  · refine ⟨by show N + 1 ≠ N + 3; omega, fun a => ?_⟩
    have := h.lowh a
    exact ⟨by show s.mh ≠ N + 3; omega, by show s.mh ≠ N + 1; omega⟩
  · have := p.len o (by omega)
    rw [p.ca o ho] at this
    exact Nat.le_trans this hn
  · show s.th o = true
    cases hc : s.th o with
    | true => rfl
    | false => have := (p.nth o ho hc).1; have hr : r ∈ s.A o := hr; rw [this] at hr; simp at hr
end Go.Proofs.YbulkbhqsDoor
