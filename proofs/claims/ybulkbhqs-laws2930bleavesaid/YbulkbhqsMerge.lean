/-
  'merge' by a contract. Own work on this program.
-/
import Derived.Test.YbulkbhqsSplit
namespace Go.Proofs.Ybulkbhqs
open Go.RowKit

set_option maxRecDepth 100000 in
set_option maxHeartbeats 1000000 in
theorem merge_any (ky : Nat → Nat) (k : Nat) : ∀ (n1 n2 : Nat) (a b : Option Nat) (la lb : List Nat) (W : World), n1 + n2 ≤ k → Tr ky W n1 a la → Tr ky W n2 b lb → (la ++ lb).Nodup → (∀ x ∈ la ++ lb, NodeOk ky W x) →
    (∀ x ∈ la, ∀ y ∈ lb, ky x < ky y) →
    Calls Yba.prog 24 #[ptr a, ptr b] W fun e W' => ∃ (p : Option Nat) (m : Nat), e = .returned (ptr p) ∧ Tr ky W' m p (la ++ lb) ∧ Chg (la ++ lb) W W' := by
  have hnone : ∀ (b : Option Nat) (W : World), Calls Yba.prog 24 #[.pointer none, ptr b] W fun e W' => e = .returned (ptr b) ∧ W' = W := by
    intro b W
    go_enter Yba.func24, Yba.ntmps24
    go_wp2_with fail
    go_ret
    exact ⟨rfl, rfl⟩
  have hnone2 : ∀ (a : Nat) (W : World), Calls Yba.prog 24 #[.pointer (some ⟨a, 0, none⟩), .pointer none] W fun e W' => e = .returned (.pointer (some ⟨a, 0, none⟩)) ∧ W' = W := by
    intro a W
    go_enter Yba.func24, Yba.ntmps24
    go_wp2_with fail
    go_ret
    exact ⟨rfl, rfl⟩
  induction k with
  | zero =>
    intro n1 n2 a b la lb W hk h1 h2 _ _ _
    obtain rfl : n1 = 0 := by omega
    obtain rfl : n2 = 0 := by omega
    obtain ⟨rfl, rfl⟩ := h1
    obtain ⟨rfl, rfl⟩ := h2
    refine (hnone none W).mono ?_
    rintro e w' ⟨rfl, rfl⟩
    exact ⟨none, 0, rfl, Tr.nil _ _ _, Chg.refl _ _⟩
  | succ k ih =>
    intro n1 n2 a b la lb W hk ha hb hnd hok hord
    cases a with
    | none =>
      obtain rfl := ha.of_none
      refine (hnone b W).mono ?_
      rintro e w' ⟨rfl, rfl⟩
      exact ⟨b, n2, rfl, hb, Chg.refl _ _⟩
    | some a =>
      cases b with
      | none =>
        obtain rfl := hb.of_none
        refine (hnone2 a W).mono ?_
        rintro e w' ⟨rfl, rfl⟩
        exact ⟨some a, n1, rfl, by simpa using ha, Chg.refl _ _⟩
      | some b =>
        cases n1 with
        | zero => cases ha.1
        | succ n1 =>
          cases n2 with
          | zero => cases hb.1
          | succ n2 =>
            have ha0 := ha
            have hb0 := hb
            rcases ha with ⟨h, _⟩ | ⟨a', L, R, pl, pr, hp, rfl, h1, h2, h3, h4, h5, h6⟩
            · cases h
            obtain rfl : a = a' := Option.some.inj hp
            rcases hb with ⟨h, _⟩ | ⟨b', L', R', pl', pr', hp', rfl, h1', h2', h3', h4', h5', h6'⟩
            · cases h
            obtain rfl : b = b' := Option.some.inj hp'
            have IH := (show Hid _ from ih)
            clear ih hnone hnone2
            obtain ⟨q, hq⟩ := (hok a (by simp)).pri
            obtain ⟨q', hq'⟩ := (hok b (by simp)).pri
            have HND := (show Hid _ from hnd)
            rw [List.nodup_append] at hnd
            obtain ⟨nda, ndb, ndx⟩ := hnd
            obtain ⟨a1, a2, a3, a4, a5⟩ := nodup_mid nda
            obtain ⟨b1, b2, b3, b4, b5⟩ := nodup_mid ndb
            show Calls Yba.prog 24 #[.pointer (some ⟨a, 0, none⟩), .pointer (some ⟨b, 0, none⟩)] W _
            by_cases hgt : q' < q
            · go_enter Yba.func24, Yba.ntmps24
              go_wp2_with fail
              go_quiet (fail)
              rename_i nq
              have hc0 : Chg [] W (W.drewN nq) := (Chg.refl _ _).drewN nq
              generalize W.drewN nq = W0 at *
              have hok0 : ∀ x ∈ L ++ a :: R ++ (L' ++ b :: R'), NodeOk ky W0 x := fun x hx => (hok x hx).chg hc0
              have t5 : Tr ky W0 n1 pl L := h5.chg hc0 (by simp)
              have t6 : Tr ky W0 n1 pr R := h6.chg hc0 (by simp)
              have tb : Tr ky W0 (n2 + 1) (some b) (L' ++ b :: R') := hb0.chg hc0 (by simp)
              have g1 := (hc0.cell a 22 (by simp)).trans h1
              have g2 := (hc0.cell a 23 (by simp)).trans h2
              clear hok ha0 hb0 h1 h2 h1' h2' h5 h6 h5' h6' hq hq'
              have ha := hok0 a (by simp)
              go_wp2_with fail
              refine (IH.out n1 (n2 + 1) pr (some b) R (L' ++ b :: R') _ (by omega) t6 tb (List.nodup_append.2 ⟨a2, ndb, fun x hx y hy => ndx x (by simp [hx]) y hy⟩) (fun x hx => hok0 x (by rcases List.mem_append.1 hx with hx | hx; simp [hx]; exact List.mem_append.2 (.inr hx))) (fun x hx y hy => hord x (by simp [hx]) y hy)).mono ?_
              rintro e W1 ⟨p, m, rfl, t1, hc⟩
              have han : a ∉ R ++ (L' ++ b :: R') := fun hx => by rcases List.mem_append.1 hx with hx | hx; exact a4 hx; exact ndx a (by simp) a hx rfl
              have c22 := (hc.cell a 22 (.inl han)).trans g1
              have c23 := (hc.cell a 23 (.inl han)).trans g2
              have f23 : W1.frozen? ⟨a, 23, none⟩ = false := (hc.fz _).trans (ha.fz 23)
              have hs := Chg.set [a] W1 a 23 (by simp) (.inr rfl) p
              have e22 : (W1.setCell ⟨a, 23, none⟩ (ptr p)).cell? ⟨a, 22, none⟩ = some (ptr pl) := (World.cell?_setCell_other _ _ _ _ (by simp)).trans c22
              have e23 : (W1.setCell ⟨a, 23, none⟩ (ptr p)).cell? ⟨a, 23, none⟩ = some (ptr p) := World.cell?_setCell_same _ _ _ c23
              have t1' := t1.chg hs (fun x hx e => by simp only [List.mem_singleton] at e; subst e; exact han hx)
              have t5' := (t5.chg hc (fun x hx hm => by rcases List.mem_append.1 hm with hm | hm; exact a5 x hx hm; exact ndx x (by simp [hx]) x hm rfl)).chg hs (fun x hx e => by simp only [List.mem_singleton] at e; subst e; exact a3 hx)
              have hokm : ∀ x ∈ L ++ a :: R ++ (L' ++ b :: R'), NodeOk ky (W1.setCell ⟨a, 23, none⟩ (ptr p)) x := fun x hx => ((hok0 x hx).chg hc).chg hs
              have HF := (show Hid _ from fixes (hokm a (by simp)) e22 e23 t5' t1' (fun x hx => ⟨fun e => a3 (e ▸ hx), hokm x (by simp [hx])⟩) (fun x hx => ⟨fun e => han (e ▸ hx), hokm x (by rcases List.mem_append.1 hx with hx | hx; simp [hx]; exact List.mem_append.2 (.inr hx))⟩))
              have HC := (show Hid _ from And.intro e22 e23)
              clear e22 e23
              go_wp2_with fail
              refine (show Calls _ _ _ _ _ from HF.out).mono ?_
              rintro e W3 ⟨rfl, hF⟩
              go_wp2_with fail
              go_ret
              refine ⟨some a, m + n1 + 1, rfl, ?_, (((hc0.mono (by simp)).trans (hc.mono (fun x hx => by rcases List.mem_append.1 hx with hx | hx; simp [hx]; exact List.mem_append.2 (.inr hx)))).trans (hs.mono (by simp))).trans (hF.chg.mono (by simp))⟩
              have := Tr.node (hF.l.trans HC.out.1) (hF.r.trans HC.out.2) h3 (fun x hx => by rcases List.mem_append.1 hx with hx | hx; exact h4 x hx; exact Nat.le_of_lt (hord a (by simp) x hx)) ((hF.tr t5').mono (show n1 ≤ m + n1 by omega)) ((hF.tr t1').mono (show m ≤ m + n1 by omega))
              simpa using this
            · go_enter Yba.func24, Yba.ntmps24
              go_wp2_with fail
              go_quiet (fail)
              rename_i nq
              have hc0 : Chg [] W (W.drewN nq) := (Chg.refl _ _).drewN nq
              generalize W.drewN nq = W0 at *
              have hok0 : ∀ x ∈ L ++ a :: R ++ (L' ++ b :: R'), NodeOk ky W0 x := fun x hx => (hok x hx).chg hc0
              have t5 : Tr ky W0 n2 pl' L' := h5'.chg hc0 (by simp)
              have t6 : Tr ky W0 n2 pr' R' := h6'.chg hc0 (by simp)
              have ta : Tr ky W0 (n1 + 1) (some a) (L ++ a :: R) := ha0.chg hc0 (by simp)
              have g1 := (hc0.cell b 22 (by simp)).trans h1'
              have g2 := (hc0.cell b 23 (by simp)).trans h2'
              clear hok ha0 hb0 h1 h2 h1' h2' h5 h6 h5' h6' hq hq'
              have hb := hok0 b (by simp)
              go_wp2_with fail
              refine (IH.out (n1 + 1) n2 (some a) pl' (L ++ a :: R) L' _ (by omega) ta t5 (List.nodup_append.2 ⟨nda, b1, fun x hx y hy => ndx x hx y (by simp [hy])⟩) (fun x hx => hok0 x (by rcases List.mem_append.1 hx with hx | hx; exact List.mem_append.2 (.inl hx); simp [hx])) (fun x hx y hy => hord x hx y (by simp [hy]))).mono ?_
              rintro e W1 ⟨p, m, rfl, t1, hc⟩
              have hbn : b ∉ L ++ a :: R ++ L' := fun hx => by rcases List.mem_append.1 hx with hx | hx; exact ndx b hx b (by simp) rfl; exact b3 hx
              have c22 := (hc.cell b 22 (.inl hbn)).trans g1
              have c23 := (hc.cell b 23 (.inl hbn)).trans g2
              have f22 : W1.frozen? ⟨b, 22, none⟩ = false := (hc.fz _).trans (hb.fz 22)
              have hs := Chg.set [b] W1 b 22 (by simp) (.inl rfl) p
              have e22 : (W1.setCell ⟨b, 22, none⟩ (ptr p)).cell? ⟨b, 22, none⟩ = some (ptr p) := World.cell?_setCell_same _ _ _ c22
              have e23 : (W1.setCell ⟨b, 22, none⟩ (ptr p)).cell? ⟨b, 23, none⟩ = some (ptr pr') := (World.cell?_setCell_other _ _ _ _ (by simp)).trans c23
              have t1' := t1.chg hs (fun x hx e => by simp only [List.mem_singleton] at e; subst e; exact hbn hx)
              have t6' := (t6.chg hc (fun x hx hm => by rcases List.mem_append.1 hm with hm | hm; exact ndx x hm x (by simp [hx]) rfl; exact b5 x hm hx)).chg hs (fun x hx e => by simp only [List.mem_singleton] at e; subst e; exact b4 hx)
              have hokm : ∀ x ∈ L ++ a :: R ++ (L' ++ b :: R'), NodeOk ky (W1.setCell ⟨b, 22, none⟩ (ptr p)) x := fun x hx => ((hok0 x hx).chg hc).chg hs
              have HF := (show Hid _ from fixes (hokm b (by simp)) e22 e23 t1' t6' (fun x hx => ⟨fun e => hbn (e ▸ hx), hokm x (by rcases List.mem_append.1 hx with hx | hx; exact List.mem_append.2 (.inl hx); simp [hx])⟩) (fun x hx => ⟨fun e => b4 (e ▸ hx), hokm x (by simp [hx])⟩))
              have HC := (show Hid _ from And.intro e22 e23)
              clear e22 e23
              go_wp2_with fail
              refine (show Calls _ _ _ _ _ from HF.out).mono ?_
              rintro e W3 ⟨rfl, hF⟩
              go_wp2_with fail
              go_ret
              refine ⟨some b, m + n2 + 1, rfl, ?_, (((hc0.mono (by simp)).trans (hc.mono (fun x hx => by rcases List.mem_append.1 hx with hx | hx; exact List.mem_append.2 (.inl hx); simp [hx]))).trans (hs.mono (by simp))).trans (hF.chg.mono (by simp))⟩
              have := Tr.node (hF.l.trans HC.out.1) (hF.r.trans HC.out.2) (fun x hx => by rcases List.mem_append.1 hx with hx | hx; exact hord x hx b (by simp); exact h3' x hx) h4' ((hF.tr t1').mono (show m ≤ m + n2 by omega)) ((hF.tr t6').mono (show n2 ≤ m + n2 by omega))
              simpa using this
end Go.Proofs.Ybulkbhqs
