/-
  A proof of 'Rows.LawS2931CShapeSaid'. The frame is the given shell's (written by program for this function), its end turned to 'Below'; the walk is by hand.
-/
import Derived.Test.YbulkbhrgRows
import Derived.Test.YbulkbhrgCut
import Derived.WalkKit
import Derived.ProofKit
import Derived.OpenShut
import Derived.ShutString
import Derived.WalkSpells
namespace Go.Proofs.Ybulkbhrg.lawS2931CShape
open Go.ChangeShapes Go.WideShapes Go.ChangeAt Go.RowKit
open Go.ChangeMaps (open_string shut_string)
set_option linter.unusedVariables false      -- a walk need not use every 'w<i>' (that an integer argument fits its kind)

theorem own : ownKnob Yba.prog.godebug = none := by kernel_rfl

/-! ### THE WALK -/
theorem ret_bool {b c : Bool} (h : b = c) : Ending.returned (.bool b) = .returned (.bool c) := by rw [h]

theorem max_law (n : Nat) (q : Int) (hq : q = 33554432 / (4 * ((n : Int) + 4))) : 0 ≤ q ∧ q ≤ 33554432 ∧ q * (4 * ((n : Int) + 4)) ≤ 33554432 ∧ 33554432 < q * (4 * ((n : Int) + 4)) + 4 * ((n : Int) + 4) ∧ 0 ≤ q * (4 * ((n : Int) + 4)) := by
  have hd : 0 < 4 * ((n : Int) + 4) := by omega
  generalize 4 * ((n : Int) + 4) = d at *
  have h0 : 0 ≤ q := by rw [hq]; exact Int.ediv_nonneg (by omega) (by omega)
  have h1 : q * d ≤ 33554432 := by rw [hq]; exact Int.ediv_mul_le _ (by omega)
  have h2 : 33554432 < (q + 1) * d := by rw [hq]; exact Int.lt_ediv_add_one_mul_self _ hd
  have h3 : 0 ≤ q * d := Int.mul_nonneg h0 (by omega)
  have h4 : (q + 1) * d = q * d + d := by rw [Int.add_mul, Int.one_mul]
  have h5 : q ≤ q * d := by
    have := Int.mul_le_mul_of_nonneg_left (show (1 : Int) ≤ d by omega) h0
    omega
  omega

set_option maxHeartbeats 400000 in
theorem walk (a0 : Int) (w0 : (Lit.int .i64 a0).wf = true) (w : World) :
    Calls Yba.prog 3 #[.int .i64 a0] w fun e w' => e = .returned (.bool true) ∧ Below w.heap.size w w' := by
  by_cases h0 : a0 < 0
  · go_enter Yba.func3, Yba.ntmps3
    go_wp2
    go_ret
    exact ⟨rfl, Below.refl _ _⟩
  by_cases h1 : 4096 < a0
  · go_enter Yba.func3, Yba.ntmps3
    go_wp2
    go_ret
    exact ⟨rfl, Below.refl _ _⟩
  obtain ⟨n, rfl⟩ := Int.eq_ofNat_of_zero_le (show 0 ≤ a0 by omega)
  have q26 : ∀ (w : World) (a : Option Addr) (n c : Nat), (binOp .eql 26 (.slice a n c) (.slice none 0 0)).run Yba.prog w = .ok (.bool a.isNone) w := fun w a n c => Lib.run_eql_slice_nil w 26 _ a n c 0 0 Yba.underlying26
  go_enter Yba.func3, Yba.ntmps3
  go_wp2_with fail
  refine (cut_any n (by omega) _).mono ?_
  rintro e w' ⟨rfl, hr⟩
  have hb := hr.below
  obtain ⟨q, hq⟩ : ∃ q, q = 33554432 / (4 * ((n : Int) + 4)) := ⟨_, rfl⟩
  have hm := max_law n q hq
  have hc0 := hr.c0
  have hc1 := hr.c1
  have hc2 := hr.c2
  have hc3 := hr.c3
  have hc4 := hr.c4
  rw [← hq] at hc0
  obtain ⟨m0, m1, m2, m3, m4⟩ := hm
  clear hr hq
  go_wp2
  go_ret
  exact ⟨rfl, hb⟩

/-! ### THE ROW's STEP: WRITTEN OUT: LEAVE IT -/
set_option maxRecDepth 100000 in
theorem lifted (os : Os) (started : os.Started) (H : Type) (enc : TypeId × Value → H) :
    ReturnsInHanded {} Yba.checked os 3 .any (Rows.lawS2931CShapeSpec.pre6 enc Yba.prog Yba.f3 Rows.lawS2931CShapeRow.domain false) (Rows.lawS2931CShapeSpec.post enc Yba.prog Yba.f3 false true false false) := by
  refine returnsInHanded_of_change (C := Yba.checked) own started (by kernel_rfl) Yba.func3
    (ChangeSpec.witness6 (enc := enc) (C := Yba.checked) false ⟨#[], #[.int .i64 0], []⟩ 8 (by kernel_rfl) (by kernel_rfl) (by kernel_rfl) (by kernel_rfl)) ?_
  intro W base args ds gs before hval0 hW hcnd _
  have hval : ∀ (j : Nat) t v, Yba.f3.params[j]? = some t → args[j]? = some v → Value.okWide Yba.prog W .any base t v := hval0
  have hW' := hW
  obtain ⟨p, q, hA0, hV, rfl, hfz, hnd⟩ := hW
  have hA : DataW.TrodAll enc Yba.prog W 0 (fun _ => true) true Yba.f3.params.toList args.toList ds p := hA0
  rw [Yba.params3] at hA hval
  obtain ⟨v0, vs0, d0, ds0, p0, q0, hargs, rfl, rfl, h0, r0⟩ := trodAll_cons hA
  obtain ⟨rfl, rfl, rfl⟩ := trodAll_nil r0
  obtain rfl : args = #[v0] := by cases args; simp_all
  obtain ⟨rfl, rfl⟩ := trodVars_none hV
  obtain ⟨a0, rfl, rfl, rfl, w0⟩ := open_int Yba.underlying3 (hval 0 3 v0 rfl rfl) h0
  clear hA0 hval0
  simp only [List.append_nil] at hW'
  refine (walk a0 w0 W).mono fun e W' ⟨he, hg⟩ => ?_
  subst he
  refine ⟨_, rfl, _, _, _, [], [], [], hW', trodAll_cons_mk (shut_bool Yba.underlying4 _) trodAll_mk0, trodAll_cons_mk (shut_int Yba.underlying3 w0) trodAll_mk0, rfl, hg.frame _, fun h => by cases h⟩

theorem over : Rows.lawS2931CShapeRow.holds Yba.pinned (OpenSpec.ofChange Rows.lawS2931CShapeSpec) :=
  OpenClaim.holds_of_wide 3 Yba.f3 rfl rfl rfl rfl rfl rfl rfl ⟨rfl, rfl, rfl, rfl, rfl⟩ rfl rfl rfl rfl rfl (by kernel_rfl) Yba.func3 (by kernel_rfl)
    (of_decide_eq_true (by kernel_rfl)) (by unfold Func.isWrapper; first | (rw [if_pos (by decide +kernel)]; kernel_rfl) | (rw [if_neg (by decide +kernel)]; exact ⟨rfl, rfl⟩))
    (fun os started H enc _ => lifted os started H enc)

/-- ████ THE STATEMENT ████ -/
theorem proved : Rows.LawS2931CShapeSaid :=
  over
end Go.Proofs.Ybulkbhrg.lawS2931CShape
