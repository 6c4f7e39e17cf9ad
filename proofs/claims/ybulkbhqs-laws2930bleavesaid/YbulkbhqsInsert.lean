/-
  'insert' by a contract. Own work on this program.
-/
import Derived.Test.YbulkbhqsSplit
namespace Go.Proofs.Ybulkbhqs
open Go.RowKit

theorem cons_nodup {r : Nat} {l : List Nat} (h : (r :: l).Nodup) : r ∉ l ∧ l.Nodup := List.nodup_cons.1 h

set_option maxRecDepth 100000 in
set_option maxHeartbeats 1000000 in
theorem insert_any (ky : Nat → Nat) (r : Nat) (n : Nat) : ∀ (p : Option Nat) (l : List Nat) (W : World), Tr ky W n p l → (r :: l).Nodup → (∀ x ∈ r :: l, NodeOk ky W x) →
    W.cell? ⟨r, 22, none⟩ = some (ptr none) → W.cell? ⟨r, 23, none⟩ = some (ptr none) →
    Calls Yba.prog 16 #[ptr p, .pointer (some ⟨r, 0, none⟩)] W fun e W' => ∃ (b : Nat) (l1 l2 : List Nat) (m : Nat), e = .returned (.pointer (some ⟨b, 0, none⟩)) ∧ l = l1 ++ l2 ∧ Tr ky W' m (some b) (l1 ++ r :: l2) ∧ Chg (r :: l) W W' := by
  have hnone : ∀ (W : World), NodeOk ky W r → W.cell? ⟨r, 22, none⟩ = some (ptr none) → W.cell? ⟨r, 23, none⟩ = some (ptr none) →
      Calls Yba.prog 16 #[.pointer none, .pointer (some ⟨r, 0, none⟩)] W fun e W' => e = .returned (.pointer (some ⟨r, 0, none⟩)) ∧ Tr ky W' 1 (some r) [r] ∧ Chg [r] W W' := by
    intro W hr h22 h23
    have HF := (show Hid _ from fixes (n := 0) (m := 0) (L := []) (R := []) hr h22 h23 (Tr.nil _ _ _) (Tr.nil _ _ _) (by simp) (by simp))
    go_enter Yba.func16, Yba.ntmps16
    go_wp2_with fail
    refine (show Calls _ _ _ _ _ from HF.out).mono ?_
    rintro e W3 ⟨rfl, hF⟩
    go_wp2_with fail
    go_ret
    exact ⟨rfl, Tr.node (L := []) (R := []) (hF.l.trans h22) (hF.r.trans h23) (by simp) (by simp) (Tr.nil _ _ _) (Tr.nil _ _ _), hF.chg⟩
  induction n with
  | zero =>
    rintro p l W ⟨rfl, rfl⟩ hnd hok h22 h23
    refine (hnone W (hok r (by simp)) h22 h23).mono ?_
    rintro e w' ⟨rfl, ht, hc⟩
    exact ⟨r, [], [], 1, rfl, rfl, ht, hc⟩
  | succ n ih =>
    intro p l W ht hnd hok h22 h23
    cases p with
    | none =>
      obtain rfl := ht.of_none
      refine (hnone W (hok r (by simp)) h22 h23).mono ?_
      rintro e w' ⟨rfl, ht, hc⟩
      exact ⟨r, [], [], 1, rfl, rfl, ht, hc⟩
    | some b =>
      have ht0 := ht
      rcases ht with ⟨h, _⟩ | ⟨b', L, R, pl, pr, hp, rfl, h1, h2, h3, h4, h5, h6⟩
      · cases h
      obtain rfl : b = b' := Option.some.inj hp
      obtain ⟨hr1, hnd1⟩ := cons_nodup hnd
      obtain ⟨n1, n2, n3, n4, n5⟩ := nodup_mid hnd1
      have hrb : r ≠ b := fun e => hr1 (by simp [e])
      obtain ⟨pp, hpp⟩ := (hok r (by simp)).pri
      obtain ⟨pb, hpb⟩ := (hok b (by simp)).pri
      have IH := (show Hid _ from ih)
      have HN := (show Hid _ from hnone)
      clear ih hnone
      show Calls Yba.prog 16 #[.pointer (some ⟨b, 0, none⟩), .pointer (some ⟨r, 0, none⟩)] W _
      by_cases hgt : pb < pp
      · go_enter Yba.func16, Yba.ntmps16
        go_wp2_with fail
        go_quiet (fail)
        rename_i nq
        have hc0 : Chg [] W (W.drewN nq) := (Chg.refl _ _).drewN nq
        generalize W.drewN nq = W0 at *
        have hok0 : ∀ x ∈ r :: (L ++ b :: R), NodeOk ky W0 x := fun x hx => (hok x hx).chg hc0
        have t0 : Tr ky W0 (n + 1) (some b) (L ++ b :: R) := ht0.chg hc0 (by simp)
        have g22 := (hc0.cell r 22 (by simp)).trans h22
        have g23 := (hc0.cell r 23 (by simp)).trans h23
        have HK := (show Hid _ from And.intro h1 (And.intro h2 (And.intro h22 h23)))
        clear hok ht0 h1 h2 h22 h23 h5 h6 hpp hpb
        have hr := hok0 r (by simp)
        go_wp2_with fail
        refine (lo_any hr).mono ?_
        rintro e w' ⟨rfl, rfl⟩
        go_wp2_with fail
        refine (split_any ky (ky r) hr.rk (n + 1) (some b) (L ++ b :: R) _ t0 hnd1 (fun x hx => hok0 x (List.mem_cons_of_mem _ hx))).mono ?_
        rintro e W1 ⟨p1, p2, l1, l2, rfl, el, t1, t2, k1, k2, hc⟩
        have hne1 : ∀ x ∈ l1, x ≠ r := fun x hx e => hr1 (by rw [el]; simp [← e, hx])
        have hne2 : ∀ x ∈ l2, x ≠ r := fun x hx e => hr1 (by rw [el]; simp [← e, hx])
        have EL := (show Hid _ from el)
        clear el
        have c22 := (hc.cell r 22 (.inl hr1)).trans g22
        have c23 := (hc.cell r 23 (.inl hr1)).trans g23
        have f22 : W1.frozen? ⟨r, 22, none⟩ = false := (hc.fz _).trans (hr.fz 22)
        have f23 : W1.frozen? ⟨r, 23, none⟩ = false := (hc.fz _).trans (hr.fz 23)
        have hs1 := Chg.set [r] W1 r 22 (by simp) (.inl rfl) p1
        have hs2 := Chg.set [r] (W1.setCell ⟨r, 22, none⟩ (ptr p1)) r 23 (by simp) (.inr rfl) p2
        have hs := hs1.trans hs2
        have d23 : (W1.setCell ⟨r, 22, none⟩ (ptr p1)).cell? ⟨r, 23, none⟩ = some (ptr none) := (World.cell?_setCell_other _ _ _ _ (by simp)).trans c23
        have e22 : ((W1.setCell ⟨r, 22, none⟩ (ptr p1)).setCell ⟨r, 23, none⟩ (ptr p2)).cell? ⟨r, 22, none⟩ = some (ptr p1) := (World.cell?_setCell_other _ _ _ _ (by simp)).trans (World.cell?_setCell_same _ _ _ c22)
        have e23 : ((W1.setCell ⟨r, 22, none⟩ (ptr p1)).setCell ⟨r, 23, none⟩ (ptr p2)).cell? ⟨r, 23, none⟩ = some (ptr p2) := World.cell?_setCell_same _ _ _ d23
        have t1' := t1.chg hs (fun x hx e => by simp at e; exact hne1 x hx e)
        have t2' := t2.chg hs (fun x hx e => by simp at e; exact hne2 x hx e)
        have hokm : ∀ x ∈ L ++ b :: R, x ≠ r ∧ NodeOk ky ((W1.setCell ⟨r, 22, none⟩ (ptr p1)).setCell ⟨r, 23, none⟩ (ptr p2)) x := fun x hx => ⟨fun e => hr1 (e ▸ hx), ((hok0 x (List.mem_cons_of_mem _ hx)).chg hc).chg hs⟩
        have HF := (show Hid _ from fixes ((hr.chg hc).chg hs) e22 e23 t1' t2' (fun x hx => hokm x (by rw [EL.out]; simp [hx])) (fun x hx => hokm x (by rw [EL.out]; simp [hx])))
        have HC := (show Hid _ from And.intro e22 e23)
        clear e22 e23 d23
        go_wp2_with fail
        refine (show Calls _ _ _ _ _ from HF.out).mono ?_
        rintro e W3 ⟨rfl, hF⟩
        go_wp2_with fail
        go_ret
        exact ⟨r, l1, l2, n + 1 + 1, rfl, EL.out, Tr.node (hF.l.trans HC.out.1) (hF.r.trans HC.out.2) k1 k2 (hF.tr t1') (hF.tr t2'),
          (((hc0.mono (by simp)).trans (hc.mono (fun x hx => List.mem_cons_of_mem _ hx))).trans (hs.mono (by simp))).trans (hF.chg.mono (by simp))⟩
      · have hle : ¬ pb < pp := hgt
        go_enter Yba.func16, Yba.ntmps16
        go_wp2_with fail
        go_quiet (fail)
        rename_i nq
        have hc0 : Chg [] W (W.drewN nq) := (Chg.refl _ _).drewN nq
        generalize W.drewN nq = W0 at *
        have hok0 : ∀ x ∈ r :: (L ++ b :: R), NodeOk ky W0 x := fun x hx => (hok x hx).chg hc0
        have h5' : Tr ky W0 n pl L := h5.chg hc0 (by simp)
        have h6' : Tr ky W0 n pr R := h6.chg hc0 (by simp)
        have g22 := (hc0.cell r 22 (by simp)).trans h22
        have g23 := (hc0.cell r 23 (by simp)).trans h23
        have g1 := (hc0.cell b 22 (by simp)).trans h1
        have g2 := (hc0.cell b 23 (by simp)).trans h2
        clear hok ht0 h1 h2 h22 h23 h5 h6 hpp hpb
        have hr := hok0 r (by simp)
        have hb := hok0 b (by simp)
        have hless := less_ks (ky r) (ky b) hr.rk hb.rk
        go_wp2_with fail
        refine (lo_any hr).mono ?_
        rintro e w' ⟨rfl, rfl⟩
        go_wp2_with fail
        refine (lo_any hb).mono ?_
        rintro e w' ⟨rfl, rfl⟩
        by_cases hlt : ky r < ky b
        · rw [decide_eq_true hlt] at hless
          go_wp2_with fail
          refine (IH.out pl L _ h5' (List.nodup_cons.2 ⟨fun hx => hr1 (by simp [hx]), n1⟩) (fun x hx => hok0 x (by rcases List.mem_cons.1 hx with rfl | hx <;> simp_all)) g22 g23).mono ?_
          rintro e W1 ⟨b1, l1, l2, m, rfl, rfl, t1, hc⟩
          have c22 := (hc.cell b 22 (.inl (fun hx => by rcases List.mem_cons.1 hx with e | hx; exact hrb e.symm; exact n3 hx))).trans g1
          have c23 := (hc.cell b 23 (.inl (fun hx => by rcases List.mem_cons.1 hx with e | hx; exact hrb e.symm; exact n3 hx))).trans g2
          have f22 : W1.frozen? ⟨b, 22, none⟩ = false := (hc.fz _).trans (hb.fz 22)
          have hs := Chg.set [b] W1 b 22 (by simp) (.inl rfl) (some b1)
          have e22 : (W1.setCell ⟨b, 22, none⟩ (ptr (some b1))).cell? ⟨b, 22, none⟩ = some (ptr (some b1)) := World.cell?_setCell_same _ _ _ c22
          have e23 : (W1.setCell ⟨b, 22, none⟩ (ptr (some b1))).cell? ⟨b, 23, none⟩ = some (ptr pr) := (World.cell?_setCell_other _ _ _ _ (by simp)).trans c23
          have t1' := t1.chg hs (fun x hx e => by simp at e hx; subst e; rcases hx with hx | e | hx; exact n3 (by simp [hx]); exact hrb e.symm; exact n3 (by simp [hx]))
          have t6' := (h6'.chg hc (fun x hx hm => by rcases List.mem_cons.1 hm with e | hm; exact hr1 (by simp [← e, hx]); exact n5 x hm hx)).chg hs (fun x hx e => by simp at e; subst e; exact n4 hx)
          have hokm : ∀ x ∈ r :: (l1 ++ l2 ++ b :: R), NodeOk ky (W1.setCell ⟨b, 22, none⟩ (ptr (some b1))) x := fun x hx => ((hok0 x hx).chg hc).chg hs
          have HF := (show Hid _ from fixes (hokm b (by simp)) e22 e23 t1' t6' (fun x hx => ⟨fun e => by subst e; simp at hx; rcases hx with hx | e | hx; exact n3 (by simp [hx]); exact hrb e.symm; exact n3 (by simp [hx]), hokm x (by simp at hx ⊢; rcases hx with hx | hx | hx <;> simp [hx])⟩) (fun x hx => ⟨fun e => n4 (e ▸ hx), hokm x (by simp [hx])⟩))
          have HC := (show Hid _ from And.intro e22 e23)
          clear e22 e23
          go_wp2_with fail
          refine (show Calls _ _ _ _ _ from HF.out).mono ?_
          rintro e W3 ⟨rfl, hF⟩
          go_wp2_with fail
          go_ret
          refine ⟨b, l1, l2 ++ b :: R, m + n + 1, rfl, by simp, ?_, (((hc0.mono (by simp)).trans (hc.mono (fun x hx => by simp at hx ⊢; rcases hx with hx | hx | hx <;> simp [hx]))).trans (hs.mono (by simp))).trans (hF.chg.mono (by simp))⟩
          have := Tr.node (hF.l.trans HC.out.1) (hF.r.trans HC.out.2) (fun x hx => by simp at hx; rcases hx with hx | rfl | hx; exact h3 x (by simp [hx]); exact hlt; exact h3 x (by simp [hx])) h4 ((hF.tr t1').mono (show m ≤ m + n by omega)) ((hF.tr t6').mono (show n ≤ m + n by omega))
          simpa using this
        · rw [decide_eq_false hlt] at hless
          go_wp2_with fail
          refine (IH.out pr R _ h6' (List.nodup_cons.2 ⟨fun hx => hr1 (by simp [hx]), n2⟩) (fun x hx => hok0 x (by rcases List.mem_cons.1 hx with rfl | hx <;> simp_all)) g22 g23).mono ?_
          rintro e W1 ⟨b1, l1, l2, m, rfl, rfl, t1, hc⟩
          have c22 := (hc.cell b 22 (.inl (fun hx => by rcases List.mem_cons.1 hx with e | hx; exact hrb e.symm; exact n4 hx))).trans g1
          have c23 := (hc.cell b 23 (.inl (fun hx => by rcases List.mem_cons.1 hx with e | hx; exact hrb e.symm; exact n4 hx))).trans g2
          have f23 : W1.frozen? ⟨b, 23, none⟩ = false := (hc.fz _).trans (hb.fz 23)
          have hs := Chg.set [b] W1 b 23 (by simp) (.inr rfl) (some b1)
          have e22 : (W1.setCell ⟨b, 23, none⟩ (ptr (some b1))).cell? ⟨b, 22, none⟩ = some (ptr pl) := (World.cell?_setCell_other _ _ _ _ (by simp)).trans c22
          have e23 : (W1.setCell ⟨b, 23, none⟩ (ptr (some b1))).cell? ⟨b, 23, none⟩ = some (ptr (some b1)) := World.cell?_setCell_same _ _ _ c23
          have t1' := t1.chg hs (fun x hx e => by simp at e hx; subst e; rcases hx with hx | e | hx; exact n4 (by simp [hx]); exact hrb e.symm; exact n4 (by simp [hx]))
          have t5' := (h5'.chg hc (fun x hx hm => by rcases List.mem_cons.1 hm with e | hm; exact hr1 (by simp [← e, hx]); exact n5 x hx hm)).chg hs (fun x hx e => by simp at e; subst e; exact n3 hx)
          have hokm : ∀ x ∈ r :: (L ++ b :: (l1 ++ l2)), NodeOk ky (W1.setCell ⟨b, 23, none⟩ (ptr (some b1))) x := fun x hx => ((hok0 x hx).chg hc).chg hs
          have HF := (show Hid _ from fixes (hokm b (by simp)) e22 e23 t5' t1' (fun x hx => ⟨fun e => n3 (e ▸ hx), hokm x (by simp [hx])⟩) (fun x hx => ⟨fun e => by subst e; simp at hx; rcases hx with hx | e | hx; exact n4 (by simp [hx]); exact hrb e.symm; exact n4 (by simp [hx]), hokm x (by simp at hx ⊢; rcases hx with hx | hx | hx <;> simp [hx])⟩))
          have HC := (show Hid _ from And.intro e22 e23)
          clear e22 e23
          go_wp2_with fail
          refine (show Calls _ _ _ _ _ from HF.out).mono ?_
          rintro e W3 ⟨rfl, hF⟩
          go_wp2_with fail
          go_ret
          refine ⟨b, L ++ b :: l1, l2, m + n + 1, rfl, by simp, ?_, (((hc0.mono (by simp)).trans (hc.mono (fun x hx => by simp at hx ⊢; rcases hx with hx | hx | hx <;> simp [hx]))).trans (hs.mono (by simp))).trans (hF.chg.mono (by simp))⟩
          have := Tr.node (hF.l.trans HC.out.1) (hF.r.trans HC.out.2) h3 (fun x hx => by simp at hx; rcases hx with hx | rfl | hx; exact h4 x (by simp [hx]); omega; exact h4 x (by simp [hx])) ((hF.tr t5').mono (show n ≤ m + n by omega)) ((hF.tr t1').mono (show m ≤ m + n by omega))
          simpa using this
end Go.Proofs.Ybulkbhqs
