/-
  'remove' by a contract. Own work on this program.
-/
import Derived.Test.YbulkbhqsMerge
import Derived.Deep.RegionWith
import Derived.LaidEqlPtr
namespace Go.Proofs.Ybulkbhqs
open Go.RowKit

theorem Yba.info63 : (Yba.prog.info? 63).map (fun i => (i.zero.isSome, i.size)) = some (true, 26) := by kernel_rfl

theorem eql_same (a : Addr) (w : World) : (binOp .eql 45 (.pointer (some a)) (.pointer (some a))).run Yba.prog w = .ok (.bool true) w := by
  obtain ⟨j, hj, _⟩ := Option.map_eq_some_iff.1 Yba.info63
  exact run_eql_ptr_same w a Yba.underlying45 hj

theorem eql_other {a b : Nat} {w : World} (hne : a ≠ b) (ha : ∃ c, w.heap[a]? = some (.cells c 63 (0, 0))) (hb : ∃ c, w.heap[b]? = some (.cells c 63 (0, 0))) :
    (binOp .eql 45 (.pointer (some ⟨a, 0, none⟩)) (.pointer (some ⟨b, 0, none⟩))).run Yba.prog w = .ok (.bool false) w := by
  obtain ⟨j, hj, hs⟩ := Option.map_eq_some_iff.1 Yba.info63
  simp at hs
  obtain ⟨ca, ha⟩ := ha
  obtain ⟨cb, hb⟩ := hb
  exact run_eql_ptr_other w Yba.underlying45 hj (by omega) (by simp) ha hb

set_option maxRecDepth 100000 in
set_option maxHeartbeats 1000000 in
/-- 'remove' where r is the root. -/
theorem remove_root (ky : Nat → Nat) (r n : Nat) (L R : List Nat) (W : World) (h : Tr ky W (n + 1) (some r) (L ++ r :: R)) (hnd : (L ++ r :: R).Nodup) (hok : ∀ x ∈ L ++ r :: R, NodeOk ky W x) (pl pr : Option Nat)
    (h1 : W.cell? ⟨r, 22, none⟩ = some (ptr pl)) (h2 : W.cell? ⟨r, 23, none⟩ = some (ptr pr)) (h3 : ∀ x ∈ L, ky x < ky r) (h4 : ∀ x ∈ R, ky r ≤ ky x) (h5 : Tr ky W n pl L) (h6 : Tr ky W n pr R) :
    Calls Yba.prog 22 #[.pointer (some ⟨r, 0, none⟩), .pointer (some ⟨r, 0, none⟩)] W fun e W' => ∃ (p' : Option Nat) (m : Nat), e = .returned (ptr p') ∧ Tr ky W' m p' (L ++ R) ∧ Chg (L ++ r :: R) W W' := by
  obtain ⟨n1, n2, n3, n4, n5⟩ := nodup_mid hnd
  have hr := hok r (by simp)
  have hd : Chg [] W W.drew := (Chg.refl _ _).drew
  have HM := (show Hid _ from merge_any ky (n + n) n n pl pr L R W.drew (Nat.le_refl _) (h5.chg hd (by simp)) (h6.chg hd (by simp)) (List.nodup_append.2 ⟨n1, n2, fun x hx y hy e => n5 x hx (e ▸ hy)⟩) (fun x hx => (hok x (by rcases List.mem_append.1 hx with hx | hx <;> simp [hx])).chg hd) (fun x hx y hy => Nat.lt_of_lt_of_le (h3 x hx) (h4 y hy)))
  have heq := eql_same ⟨r, 0, none⟩
  go_enter Yba.func22, Yba.ntmps22
  go_wp2_with fail
  go_region_with (go_at_call 24; refine (show Calls _ _ _ _ _ from HM.out).mono ?_; rintro e W1 ⟨p, m, rfl, t1, hc⟩)
  all_goals
    have han : r ∉ L ++ R := fun hx => by rcases List.mem_append.1 hx with hx | hx; exact n3 hx; exact n4 hx
    have c22 : W1.cell? ⟨r, 22, none⟩ = some (ptr pl) := (hc.cell r 22 (.inl han)).trans h1
    have c23 : W1.cell? ⟨r, 23, none⟩ = some (ptr pr) := (hc.cell r 23 (.inl han)).trans h2
    have f22 : W1.frozen? ⟨r, 22, none⟩ = false := (hc.fz _).trans (hr.fz 22)
    have f23 : W1.frozen? ⟨r, 23, none⟩ = false := (hc.fz _).trans (hr.fz 23)
    have d23 : (W1.setCell ⟨r, 22, none⟩ (ptr none)).cell? ⟨r, 23, none⟩ = some (ptr pr) := (World.cell?_setCell_other _ _ _ _ (by simp)).trans c23
    have hs1 := Chg.set [r] W1 r 22 (by simp) (.inl rfl) none
    have hs2 := Chg.set [r] (W1.setCell ⟨r, 22, none⟩ (ptr none)) r 23 (by simp) (.inr rfl) none
    have hs := hs1.trans hs2
    go_wp2_with fail
    go_ret
    exact ⟨p, m, rfl, t1.chg hs (fun x hx e => by simp only [List.mem_singleton] at e; subst e; exact han hx), ((hd.mono (by simp)).trans (hc.mono (fun x hx => by rcases List.mem_append.1 hx with hx | hx <;> simp [hx]))).trans (hs.mono (by simp))⟩

set_option maxRecDepth 100000 in
set_option maxHeartbeats 1000000 in
theorem remove_any (ky : Nat → Nat) (r : Nat) (n : Nat) : ∀ (p : Option Nat) (l : List Nat) (W : World), Tr ky W n p l → r ∈ l → l.Nodup → (∀ x ∈ l, NodeOk ky W x) →
    Calls Yba.prog 22 #[ptr p, .pointer (some ⟨r, 0, none⟩)] W fun e W' => ∃ (p' : Option Nat) (m : Nat) (l1 l2 : List Nat), e = .returned (ptr p') ∧ l = l1 ++ r :: l2 ∧ Tr ky W' m p' (l1 ++ l2) ∧ Chg l W W' := by
  induction n with
  | zero =>
    rintro p l W ⟨rfl, rfl⟩ hr
    cases hr
  | succ n ih =>
    intro p l W ht hr hnd hok
    have ht0 := ht
    rcases ht with ⟨_, rfl⟩ | ⟨b, L, R, pl, pr, rfl, rfl, h1, h2, h3, h4, h5, h6⟩
    · cases hr
    by_cases hrb : b = r
    · subst hrb
      refine (remove_root ky b n L R W ht0 hnd hok pl pr h1 h2 h3 h4 h5 h6).mono ?_
      rintro e W' ⟨p', m, rfl, t, hc⟩
      exact ⟨p', m, L, R, rfl, rfl, t, hc⟩
    obtain ⟨n1, n2, n3, n4, n5⟩ := nodup_mid hnd
    have hR := hok r hr
    have hB := hok b (by simp)
    have heq : (binOp .eql 45 (.pointer (some ⟨b, 0, none⟩)) (.pointer (some ⟨r, 0, none⟩))).run Yba.prog W = .ok (.bool false) W := eql_other hrb hB.blkc hR.blkc
    have hless := less_ks (ky r) (ky b) hR.rk hB.rk
    have IH := (show Hid _ from ih)
    clear ih
    show Calls Yba.prog 22 #[.pointer (some ⟨b, 0, none⟩), .pointer (some ⟨r, 0, none⟩)] W _
    by_cases hlt : ky r < ky b
    · rw [decide_eq_true hlt] at hless
      have hrL : r ∈ L := by
        rcases List.mem_append.1 hr with h | h
        · exact h
        · rcases List.mem_cons.1 h with e | h
          · exact absurd e.symm hrb
          · have := h4 r h; omega
      clear ht0
      go_enter Yba.func22, Yba.ntmps22
      go_wp2_with fail
      refine (lo_any hR).mono ?_
      rintro e w' ⟨rfl, rfl⟩
      go_wp2_with fail
      refine (lo_any hB).mono ?_
      rintro e w' ⟨rfl, rfl⟩
      go_wp2_with fail
      refine (IH.out pl L _ h5 hrL n1 (fun x hx => hok x (by simp [hx]))).mono ?_
      rintro e W1 ⟨p', m, l1, l2, rfl, rfl, t1, hc⟩
      have c22 := (hc.cell b 22 (.inl n3)).trans h1
      have c23 := (hc.cell b 23 (.inl n3)).trans h2
      have f22 : W1.frozen? ⟨b, 22, none⟩ = false := (hc.fz _).trans (hB.fz 22)
      have hs := Chg.set [b] W1 b 22 (by simp) (.inl rfl) p'
      have e22 : (W1.setCell ⟨b, 22, none⟩ (ptr p')).cell? ⟨b, 22, none⟩ = some (ptr p') := World.cell?_setCell_same _ _ _ c22
      have e23 : (W1.setCell ⟨b, 22, none⟩ (ptr p')).cell? ⟨b, 23, none⟩ = some (ptr pr) := (World.cell?_setCell_other _ _ _ _ (by simp)).trans c23
      have t1' := t1.chg hs (fun x hx e => by simp only [List.mem_singleton] at e; subst e; exact n3 (by rcases List.mem_append.1 hx with hx | hx <;> simp [hx]))
      have t6' := (h6.chg hc (fun x hx hm => n5 x hm hx)).chg hs (fun x hx e => by simp only [List.mem_singleton] at e; subst e; exact n4 hx)
      have hokm : ∀ x ∈ l1 ++ r :: l2 ++ b :: R, NodeOk ky (W1.setCell ⟨b, 22, none⟩ (ptr p')) x := fun x hx => ((hok x hx).chg hc).chg hs
      have HF := (show Hid _ from fixes (hokm b (by simp)) e22 e23 t1' t6' (fun x hx => ⟨fun e => n3 (by subst e; rcases List.mem_append.1 hx with hx | hx <;> simp [hx]), hokm x (by rcases List.mem_append.1 hx with hx | hx <;> simp [hx])⟩) (fun x hx => ⟨fun e => n4 (e ▸ hx), hokm x (by simp [hx])⟩))
      have HC := (show Hid _ from And.intro e22 e23)
      clear e22 e23
      go_wp2_with fail
      refine (show Calls _ _ _ _ _ from HF.out).mono ?_
      rintro e W3 ⟨rfl, hF⟩
      go_wp2_with fail
      go_ret
      refine ⟨some b, m + n + 1, l1, l2 ++ b :: R, rfl, by simp, ?_, ((hc.mono (fun x hx => List.mem_append.2 (.inl hx))).trans (hs.mono (by simp))).trans (hF.chg.mono (by simp))⟩
      have := Tr.node (hF.l.trans HC.out.1) (hF.r.trans HC.out.2) (fun x hx => h3 x (by rcases List.mem_append.1 hx with hx | hx <;> simp [hx])) h4 ((hF.tr t1').mono (show m ≤ m + n by omega)) ((hF.tr t6').mono (show n ≤ m + n by omega))
      simpa using this
    · rw [decide_eq_false hlt] at hless
      have hrR : r ∈ R := by
        rcases List.mem_append.1 hr with h | h
        · have := h3 r h; omega
        · rcases List.mem_cons.1 h with e | h
          · exact absurd e.symm hrb
          · exact h
      clear ht0
      go_enter Yba.func22, Yba.ntmps22
      go_wp2_with fail
      refine (lo_any hR).mono ?_
      rintro e w' ⟨rfl, rfl⟩
      go_wp2_with fail
      refine (lo_any hB).mono ?_
      rintro e w' ⟨rfl, rfl⟩
      go_wp2_with fail
      refine (IH.out pr R _ h6 hrR n2 (fun x hx => hok x (by simp [hx]))).mono ?_
      rintro e W1 ⟨p', m, l1, l2, rfl, rfl, t1, hc⟩
      have c22 := (hc.cell b 22 (.inl n4)).trans h1
      have c23 := (hc.cell b 23 (.inl n4)).trans h2
      have f23 : W1.frozen? ⟨b, 23, none⟩ = false := (hc.fz _).trans (hB.fz 23)
      have hs := Chg.set [b] W1 b 23 (by simp) (.inr rfl) p'
      have e22 : (W1.setCell ⟨b, 23, none⟩ (ptr p')).cell? ⟨b, 22, none⟩ = some (ptr pl) := (World.cell?_setCell_other _ _ _ _ (by simp)).trans c22
      have e23 : (W1.setCell ⟨b, 23, none⟩ (ptr p')).cell? ⟨b, 23, none⟩ = some (ptr p') := World.cell?_setCell_same _ _ _ c23
      have t1' := t1.chg hs (fun x hx e => by simp only [List.mem_singleton] at e; subst e; exact n4 (by rcases List.mem_append.1 hx with hx | hx <;> simp [hx]))
      have t5' := (h5.chg hc (fun x hx hm => n5 x hx hm)).chg hs (fun x hx e => by simp only [List.mem_singleton] at e; subst e; exact n3 hx)
      have hokm : ∀ x ∈ L ++ b :: (l1 ++ r :: l2), NodeOk ky (W1.setCell ⟨b, 23, none⟩ (ptr p')) x := fun x hx => ((hok x hx).chg hc).chg hs
      have HF := (show Hid _ from fixes (hokm b (by simp)) e22 e23 t5' t1' (fun x hx => ⟨fun e => n3 (e ▸ hx), hokm x (by simp [hx])⟩) (fun x hx => ⟨fun e => n4 (by subst e; rcases List.mem_append.1 hx with hx | hx <;> simp [hx]), hokm x (by rcases List.mem_append.1 hx with hx | hx <;> simp [hx])⟩))
      have HC := (show Hid _ from And.intro e22 e23)
      clear e22 e23
      go_wp2_with fail
      refine (show Calls _ _ _ _ _ from HF.out).mono ?_
      rintro e W3 ⟨rfl, hF⟩
      go_wp2_with fail
      go_ret
      refine ⟨some b, m + n + 1, L ++ b :: l1, l2, rfl, by simp, ?_, ((hc.mono (fun x hx => List.mem_append.2 (.inr (List.mem_cons_of_mem _ hx)))).trans (hs.mono (by simp))).trans (hF.chg.mono (by simp))⟩
      have := Tr.node (hF.l.trans HC.out.1) (hF.r.trans HC.out.2) h3 (fun x hx => h4 x (by rcases List.mem_append.1 hx with hx | hx <;> simp [hx])) ((hF.tr t5').mono (show n ≤ m + n by omega)) ((hF.tr t1').mono (show m ≤ m + n by omega))
      simpa using this
end Go.Proofs.Ybulkbhqs
