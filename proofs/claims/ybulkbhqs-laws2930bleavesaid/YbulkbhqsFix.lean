/-
  'lo', 'hi', 'fix' by contracts. Own work on this program.
-/
import Derived.Test.YbulkbhqsTree
import Derived.BigRegion
import Derived.Deep.QuietTactic
import Derived.BigQuiet
namespace Go.Proofs.Ybulkbhqs
open Go.RowKit

theorem less_ks (i j : Nat) (hi : i < 4) (hj : j < 4) : Op.bytesLess (ks i).toList (ks j).toList = decide (i < j) := by
  have h : ∀ i : Fin 4, ∀ j : Fin 4, Op.bytesLess (ks i.val).toList (ks j.val).toList = decide (i.val < j.val) := by decide +kernel
  exact h ⟨i, hi⟩ ⟨j, hj⟩

theorem lo_any {ky : Nat → Nat} {W : World} {b : Nat} (h : NodeOk ky W b) : Calls Yba.prog 21 #[.pointer (some ⟨b, 0, none⟩)] W fun e w' => e = .returned (.string (ks (ky b))) ∧ w' = W := by
  obtain ⟨⟨d, hd⟩, h8, h9, _⟩ := h
  cases d
  all_goals
    go_enter Yba.func21, Yba.ntmps21
    go_wp2
    go_ret
    exact ⟨rfl, rfl⟩

theorem hi_any {ky : Nat → Nat} {W : World} {b : Nat} (h : NodeOk ky W b) : Calls Yba.prog 23 #[.pointer (some ⟨b, 0, none⟩)] W fun e w' => e = .returned (.string (ks (ky b))) ∧ w' = W := by
  obtain ⟨⟨d, hd⟩, h8, h9, _⟩ := h
  cases d
  all_goals
    go_enter Yba.func23, Yba.ntmps23
    go_wp2
    go_ret
    exact ⟨rfl, rfl⟩

/-- The later of two strings. -/
def mx (x y : ByteArray) : ByteArray := if Op.bytesLess x.toList y.toList then y else x

theorem run_max (x y : ByteArray) (w : World) : (Builtin.max_ #[9, 9] 9 #[.string x, .string y]).run Yba.prog w = .ok (.string (mx x y)) w := by
  unfold mx
  by_cases h : Op.bytesLess x.toList y.toList = true
  · simp [Builtin.max_, Builtin.max2, Op.stringOp, asBool, h]
  · simp [Builtin.max_, Builtin.max2, Op.stringOp, asBool, h]

/-- 'reach' of b alone has turned. -/
structure Fixed (b : Nat) (W W' : World) : Prop where
  chg : Chg [b] W W'
  l : W'.cell? ⟨b, 22, none⟩ = W.cell? ⟨b, 22, none⟩
  r : W'.cell? ⟨b, 23, none⟩ = W.cell? ⟨b, 23, none⟩

theorem Fixed.refl (b : Nat) (W : World) : Fixed b W W := ⟨Chg.refl _ _, rfl, rfl⟩
theorem Fixed.set {b : Nat} {W W' : World} (h : Fixed b W W') (s : ByteArray) : Fixed b W (W'.setCell ⟨b, 25, none⟩ (.string s)) :=
  ⟨h.chg.trans (Chg.setReach _ _ _ (by simp) _), (World.cell?_setCell_other _ _ _ _ (by simp)).trans h.l, (World.cell?_setCell_other _ _ _ _ (by simp)).trans h.r⟩
theorem Fixed.drew {b : Nat} {W W' : World} (h : Fixed b W W') : Fixed b W W'.drew := ⟨h.chg.drew, h.l, h.r⟩

set_option maxHeartbeats 400000 in
/-- 'fix': 'reach' alone turns. -/
theorem fix_any {ky : Nat → Nat} {W : World} {b : Nat} (h : NodeOk ky W b) (pl pr : Option Nat) (hl : W.cell? ⟨b, 22, none⟩ = some (ptr pl)) (hr : W.cell? ⟨b, 23, none⟩ = some (ptr pr))
    (cl : ∀ c, pl = some c → c ≠ b ∧ ∃ s, W.cell? ⟨c, 25, none⟩ = some (.string s)) (cr : ∀ c, pr = some c → c ≠ b ∧ ∃ s, W.cell? ⟨c, 25, none⟩ = some (.string s)) :
    Calls Yba.prog 19 #[.pointer (some ⟨b, 0, none⟩)] W fun e w' => e = .returned (.pointer (some ⟨b, 0, none⟩)) ∧ Fixed b W w' := by
  have hz := h.fz 25
  obtain ⟨s0, hs0⟩ := h.rch
  have hmx := run_max
  cases pl with
  | none =>
    cases pr with
    | none =>
      simp only [ptr, pa] at hl hr
      go_enter Yba.func19, Yba.ntmps19
      go_wp2_with fail
      refine (hi_any h).mono ?_
      rintro e w' ⟨rfl, rfl⟩
      go_wp2
      go_ret
      exact ⟨rfl, (Fixed.refl _ _).set _⟩
    | some c =>
      obtain ⟨hne, s1, hs1⟩ := cr c rfl
      simp only [ptr, pa] at hl hr
      clear cl cr
      go_enter Yba.func19, Yba.ntmps19
      go_wp2_with fail
      refine (hi_any h).mono ?_
      rintro e w' ⟨rfl, rfl⟩
      go_wp2
      go_region
      go_wp2
      go_ret
      exact ⟨rfl, (((Fixed.refl _ _).set _).set _).drew⟩
  | some c =>
    obtain ⟨hne, s1, hs1⟩ := cl c rfl
    cases pr with
    | none =>
      simp only [ptr, pa] at hl hr
      clear cl cr
      go_enter Yba.func19, Yba.ntmps19
      go_wp2_with fail
      refine (hi_any h).mono ?_
      rintro e w' ⟨rfl, rfl⟩
      go_wp2
      go_region
      go_wp2
      go_ret
      exact ⟨rfl, (((Fixed.refl _ _).set _).set _).drew⟩
    | some c' =>
      obtain ⟨hne', s2, hs2⟩ := cr c' rfl
      simp only [ptr, pa] at hl hr
      clear cl cr
      go_enter Yba.func19, Yba.ntmps19
      go_wp2_with fail
      refine (hi_any h).mono ?_
      rintro e w' ⟨rfl, rfl⟩
      go_wp2
      go_region
      go_wp2
      go_region
      go_wp2
      go_ret
      exact ⟨rfl, (((((Fixed.refl _ _).set _).set _).set _).drew).drew⟩
end Go.Proofs.Ybulkbhqs
