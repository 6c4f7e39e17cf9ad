/-
  'split' by a contract. Own work on this program.
-/
import Derived.Test.YbulkbhqsFix
namespace Go.Proofs.Ybulkbhqs
open Go.RowKit

theorem Tr.root_mem {ky : Nat → Nat} {W : World} {n : Nat} {c : Nat} {l : List Nat} (h : Tr ky W n (some c) l) : c ∈ l := by
  cases n with
  | zero => cases h.1
  | succ n =>
    rcases h with ⟨h, _⟩ | ⟨b, L, R, pl, pr, hp, rfl, _⟩
    · cases h
    · cases hp; simp

/-- A run with its two subtreaps: one treap. -/
theorem Tr.node {ky : Nat → Nat} {W : World} {n : Nat} {b : Nat} {L R : List Nat} {pl pr : Option Nat} (h1 : W.cell? ⟨b, 22, none⟩ = some (ptr pl)) (h2 : W.cell? ⟨b, 23, none⟩ = some (ptr pr))
    (h3 : ∀ x ∈ L, ky x < ky b) (h4 : ∀ x ∈ R, ky b ≤ ky x) (h5 : Tr ky W n pl L) (h6 : Tr ky W n pr R) : Tr ky W (n + 1) (some b) (L ++ b :: R) :=
  .inr ⟨b, L, R, pl, pr, rfl, rfl, h1, h2, h3, h4, h5, h6⟩

theorem Fixed.tr {ky : Nat → Nat} {b : Nat} {W W' : World} (h : Fixed b W W') {n : Nat} {p : Option Nat} {l : List Nat} (ht : Tr ky W n p l) : Tr ky W' n p l := by
  refine ht.same fun x _ => ?_
  by_cases e : x = b
  · subst e; exact ⟨h.l, h.r⟩
  · exact ⟨h.chg.cell x 22 (.inl (by simp [e])), h.chg.cell x 23 (.inl (by simp [e]))⟩

theorem nodup_mid {L R : List Nat} {b : Nat} (h : (L ++ b :: R).Nodup) : L.Nodup ∧ R.Nodup ∧ b ∉ L ∧ b ∉ R ∧ ∀ x ∈ L, x ∉ R := by
  rw [List.nodup_append] at h
  obtain ⟨h1, h2, h3⟩ := h
  rw [List.nodup_cons] at h2
  exact ⟨h1, h2.2, fun hb => h3 b hb b (by simp) rfl, h2.1, fun x hx hr => h3 x hx x (by simp [hr]) rfl⟩

/-- b's two links stand in W2: fit for 'fix'. -/
theorem fixes {ky : Nat → Nat} {W2 : World} {b n m : Nat} {L R : List Nat} {pl pr : Option Nat} (hb : NodeOk ky W2 b) (h1 : W2.cell? ⟨b, 22, none⟩ = some (ptr pl)) (h2 : W2.cell? ⟨b, 23, none⟩ = some (ptr pr))
    (h5 : Tr ky W2 n pl L) (h6 : Tr ky W2 m pr R) (hL : ∀ x ∈ L, x ≠ b ∧ NodeOk ky W2 x) (hR : ∀ x ∈ R, x ≠ b ∧ NodeOk ky W2 x) :
    Calls Yba.prog 19 #[.pointer (some ⟨b, 0, none⟩)] W2 fun e w' => e = .returned (.pointer (some ⟨b, 0, none⟩)) ∧ Fixed b W2 w' :=
  fix_any hb pl pr h1 h2 (fun c e => by subst e; have := hL c h5.root_mem; exact ⟨this.1, this.2.rch⟩) (fun c e => by subst e; have := hR c h6.root_mem; exact ⟨this.1, this.2.rch⟩)

set_option maxRecDepth 100000 in
set_option maxHeartbeats 1000000 in
theorem split_any (ky : Nat → Nat) (q : Nat) (hq : q < 4) (n : Nat) : ∀ (p : Option Nat) (l : List Nat) (W : World), Tr ky W n p l → l.Nodup → (∀ x ∈ l, NodeOk ky W x) →
    Calls Yba.prog 20 #[ptr p, .string (ks q)] W fun e W' => ∃ (p1 p2 : Option Nat) (l1 l2 : List Nat), e = .returned (.tuple #[ptr p1, ptr p2]) ∧ l = l1 ++ l2 ∧ Tr ky W' n p1 l1 ∧ Tr ky W' n p2 l2 ∧
      (∀ x ∈ l1, ky x < q) ∧ (∀ x ∈ l2, q ≤ ky x) ∧ Chg l W W' := by
  have hnone : ∀ (W : World), Calls Yba.prog 20 #[.pointer none, .string (ks q)] W fun e W' => e = .returned (.tuple #[.pointer none, .pointer none]) ∧ W' = W := by
    intro W
    go_enter Yba.func20, Yba.ntmps20
    go_wp2_with fail
    go_ret2
    exact ⟨rfl, rfl⟩
  induction n with
  | zero =>
    rintro p l W ⟨rfl, rfl⟩ _ _
    refine (hnone W).mono ?_
    rintro e w' ⟨rfl, rfl⟩
    exact ⟨none, none, [], [], rfl, rfl, Tr.nil _ _ _, Tr.nil _ _ _, by simp, by simp, Chg.refl _ _⟩
  | succ n ih =>
    intro p l W ht hnd hok
    cases p with
    | none =>
      obtain rfl := ht.of_none
      refine (hnone W).mono ?_
      rintro e w' ⟨rfl, rfl⟩
      exact ⟨none, none, [], [], rfl, rfl, Tr.nil _ _ _, Tr.nil _ _ _, by simp, by simp, Chg.refl _ _⟩
    | some b =>
      rcases ht with ⟨h, _⟩ | ⟨b', L, R, pl, pr, hp, rfl, h1, h2, h3, h4, h5, h6⟩
      · cases h
      obtain rfl : b = b' := Option.some.inj hp
      have hb := hok b (by simp)
      have hless := less_ks (ky b) q hb.rk hq
      have IH := (show Hid _ from ih)
      have HN := (show Hid _ from hnone)
      clear ih hnone
      obtain ⟨n1, n2, n3, n4, n5⟩ := nodup_mid hnd
      by_cases hlt : ky b < q
      · rw [decide_eq_true hlt] at hless
        show Calls Yba.prog 20 #[.pointer (some ⟨b, 0, none⟩), .string (ks q)] W _
        go_enter Yba.func20, Yba.ntmps20
        go_wp2_with fail
        refine (lo_any hb).mono ?_
        rintro e w' ⟨rfl, rfl⟩
        go_wp2_with fail
        refine (IH.out pr R _ h6 n2 (fun x hx => hok x (by simp [hx]))).mono ?_
        rintro e W1 ⟨p1, p2, l1, l2, rfl, rfl, t1, t2, k1, k2, hc⟩
        have c22 : W1.cell? ⟨b, 22, none⟩ = some (ptr pl) := (hc.cell b 22 (.inl n4)).trans h1
        have c23 : W1.cell? ⟨b, 23, none⟩ = some (ptr pr) := (hc.cell b 23 (.inl n4)).trans h2
        have f23 : W1.frozen? ⟨b, 23, none⟩ = false := (hc.fz _).trans (hb.fz 23)
        have hc2 : Chg (L ++ b :: (l1 ++ l2)) w' (W1.setCell ⟨b, 23, none⟩ (ptr p1)) := (hc.mono (fun x hx => List.mem_append.2 (.inr (List.mem_cons_of_mem _ hx)))).trans (Chg.set _ _ _ _ (by simp) (.inr rfl) _)
        have c22' : (W1.setCell ⟨b, 23, none⟩ (ptr p1)).cell? ⟨b, 22, none⟩ = some (ptr pl) := (World.cell?_setCell_other _ _ _ _ (by simp)).trans c22
        have c23' : (W1.setCell ⟨b, 23, none⟩ (ptr p1)).cell? ⟨b, 23, none⟩ = some (ptr p1) := World.cell?_setCell_same _ _ _ c23
        have hset := Chg.set [b] W1 b 23 (by simp) (.inr rfl) p1
        have t5 : Tr ky (W1.setCell ⟨b, 23, none⟩ (ptr p1)) n pl L := (h5.chg hc (fun x hx => n5 x hx)).chg hset (fun x hx e => by simp at e; subst e; exact n3 hx)
        have t1' : Tr ky (W1.setCell ⟨b, 23, none⟩ (ptr p1)) n p1 l1 := t1.chg hset (fun x hx e => by simp at e; subst e; exact n4 (by simp [hx]))
        have t2' : Tr ky (W1.setCell ⟨b, 23, none⟩ (ptr p1)) n p2 l2 := t2.chg hset (fun x hx e => by simp at e; subst e; exact n4 (by simp [hx]))
        have hfix := fixes (hb.chg hc2) c22' c23' t5 t1' (fun x hx => ⟨fun e => n3 (e ▸ hx), (hok x (by simp [hx])).chg hc2⟩) (fun x hx => ⟨fun e => n4 (by rw [← e]; simp [hx]), (hok x (by simp [hx])).chg hc2⟩)
        have HF := (show Hid _ from hfix)
        have HC := (show Hid _ from c22')
        have HD := (show Hid _ from c23')
        clear hfix c22' c23'
        go_wp2_with fail
        refine (show Calls _ _ _ _ _ from HF.out).mono ?_
        rintro e W3 ⟨rfl, hF⟩
        go_wp2_with fail
        go_ret2
        refine ⟨some b, p2, L ++ b :: l1, l2, rfl, by simp, Tr.node (hF.l.trans HC.out) (hF.r.trans HD.out) h3 (fun x hx => h4 x (by simp [hx])) (hF.tr t5) (hF.tr t1'), (hF.tr t2').mono (by omega), ?_, k2, hc2.trans (hF.chg.mono (by simp))⟩
        intro x hx
        simp at hx
        rcases hx with hx | rfl | hx
        · have := h3 x hx; omega
        · exact hlt
        · exact k1 x hx
      · rw [decide_eq_false hlt] at hless
        show Calls Yba.prog 20 #[.pointer (some ⟨b, 0, none⟩), .string (ks q)] W _
        go_enter Yba.func20, Yba.ntmps20
        go_wp2_with fail
        refine (lo_any hb).mono ?_
        rintro e w' ⟨rfl, rfl⟩
        go_wp2_with fail
        refine (IH.out pl L _ h5 n1 (fun x hx => hok x (by simp [hx]))).mono ?_
        rintro e W1 ⟨p1, p2, l1, l2, rfl, rfl, t1, t2, k1, k2, hc⟩
        have c22 : W1.cell? ⟨b, 22, none⟩ = some (ptr pl) := (hc.cell b 22 (.inl n3)).trans h1
        have c23 : W1.cell? ⟨b, 23, none⟩ = some (ptr pr) := (hc.cell b 23 (.inl n3)).trans h2
        have f22 : W1.frozen? ⟨b, 22, none⟩ = false := (hc.fz _).trans (hb.fz 22)
        have hc2 : Chg ((l1 ++ l2) ++ b :: R) w' (W1.setCell ⟨b, 22, none⟩ (ptr p2)) := (hc.mono (fun x hx => List.mem_append.2 (.inl hx))).trans (Chg.set _ _ _ _ (by simp) (.inl rfl) _)
        have c22' : (W1.setCell ⟨b, 22, none⟩ (ptr p2)).cell? ⟨b, 22, none⟩ = some (ptr p2) := World.cell?_setCell_same _ _ _ c22
        have c23' : (W1.setCell ⟨b, 22, none⟩ (ptr p2)).cell? ⟨b, 23, none⟩ = some (ptr pr) := (World.cell?_setCell_other _ _ _ _ (by simp)).trans c23
        have hset := Chg.set [b] W1 b 22 (by simp) (.inl rfl) p2
        have t6 : Tr ky (W1.setCell ⟨b, 22, none⟩ (ptr p2)) n pr R := (h6.chg hc (fun x hx hl => n5 x hl hx)).chg hset (fun x hx e => by simp at e; subst e; exact n4 hx)
        have t1' : Tr ky (W1.setCell ⟨b, 22, none⟩ (ptr p2)) n p1 l1 := t1.chg hset (fun x hx e => by simp at e; subst e; exact n3 (by simp [hx]))
        have t2' : Tr ky (W1.setCell ⟨b, 22, none⟩ (ptr p2)) n p2 l2 := t2.chg hset (fun x hx e => by simp at e; subst e; exact n3 (by simp [hx]))
        have hfix := fixes (hb.chg hc2) c22' c23' t2' t6 (fun x hx => ⟨fun e => n3 (by rw [← e]; simp [hx]), (hok x (by simp [hx])).chg hc2⟩) (fun x hx => ⟨fun e => n4 (e ▸ hx), (hok x (by simp [hx])).chg hc2⟩)
        have HF := (show Hid _ from hfix)
        have HC := (show Hid _ from c22')
        have HD := (show Hid _ from c23')
        clear hfix c22' c23'
        go_wp2_with fail
        refine (show Calls _ _ _ _ _ from HF.out).mono ?_
        rintro e W3 ⟨rfl, hF⟩
        go_wp2_with fail
        go_ret2
        refine ⟨p1, some b, l1, l2 ++ b :: R, rfl, by simp, (hF.tr t1').mono (by omega), Tr.node (hF.l.trans HC.out) (hF.r.trans HD.out) (fun x hx => h3 x (by simp [hx])) h4 (hF.tr t2') (hF.tr t6), k1, ?_, hc2.trans (hF.chg.mono (by simp))⟩
        intro x hx
        simp at hx
        rcases hx with hx | rfl | hx
        · exact k2 x hx
        · omega
        · have := h4 x hx; omega
end Go.Proofs.Ybulkbhqs
