/-
  A proof of 'Rows.LawS2931CWeightsSaid'. The frame is the given shell's (written by program for this function), its end turned to 'Below'; the walk is by hand.
-/
import Derived.Test.YbulkbhrgRows
import Derived.Test.YbulkbhrgCut
import Derived.Test.YbulkbhrgPow
import Derived.WalkKit
import Derived.ProofKit
import Derived.OpenShut
import Derived.ShutString
namespace Go.Proofs.Ybulkbhrg.lawS2931CWeights
open Go.ChangeShapes Go.WideShapes Go.ChangeAt Go.RowKit
open Go.ChangeMaps (open_string shut_string)
set_option linter.unusedVariables false      -- a walk need not use every 'w<i>' (that an integer argument fits its kind)

theorem own : ownKnob Yba.prog.godebug = none := by kernel_rfl

/-! ### THE WALK -/
theorem pw_pm (k : Nat) : pm 11400714819323198485 k = pw k := rfl

theorem pw_odd (k : Nat) : 0 ≤ pw k ∧ pw k ≤ 18446744073709551615 ∧ pw k % 2 = 1 := by
  have h : 11400714819323198485 ^ k % 2 = 1 := by
    rw [Nat.pow_mod, show 11400714819323198485 % 2 = 1 from rfl, Nat.one_pow]
  unfold pw
  generalize 11400714819323198485 ^ k = x at *
  omega

set_option maxHeartbeats 400000 in
theorem walk (a0 : Int) (w0 : (Lit.int .i64 a0).wf = true) (w : World) :
    Calls Yba.prog 4 #[.int .i64 a0] w fun e w' => e = .returned (.bool true) ∧ Below w.heap.size w w' := by
  by_cases h0 : a0 < 0
  · go_enter Yba.func4, Yba.ntmps4
    go_wp2
    go_ret
    exact ⟨rfl, Below.refl _ _⟩
  by_cases h1 : 4096 < a0
  · go_enter Yba.func4, Yba.ntmps4
    go_wp2
    go_ret
    exact ⟨rfl, Below.refl _ _⟩
  obtain ⟨n, rfl⟩ := Int.eq_ofNat_of_zero_le (show 0 ≤ a0 by omega)
  go_enter Yba.func4, Yba.ntmps4
  go_wp2_with fail
  refine (cut_any n (by omega) _).mono ?_
  rintro e w' ⟨rfl, hr⟩
  have hb := hr.below
  have hc2 := hr.c2
  have hn : n ≤ 4096 := by omega
  go_wp2
  go_loop [4] (fun i => ∃ k : Nat, k ≤ n ∧ i = .int .i64 k) (fun i => n - (intOf i).toNat)
  case atStart => exact ⟨0, Nat.zero_le _, rfl⟩
  case round =>
    obtain ⟨k, hk, rfl⟩ := hrel
    by_cases hlt : k < n
    · have hcell := hr.done k hlt
      obtain ⟨o0, o1, o2⟩ := pw_odd (k + 1)
      have hand : bits BinOp.and IntKind.u64 (pw (k + 1)) 1 = pw (k + 1) % 2 := and_one_u64 _ o0 o1
      rw [o2] at hand
      clear o0 o1 o2
      go_wp2_with fail
      refine (pow_any _ _ _ (by omega) (by omega) (by omega)).mono ?_
      rintro e w1 ⟨rfl, rfl⟩
      rw [show pm (11400714819323198485 : Int).toNat ((k : Int) + 1).toNat = pw (k + 1) from by rw [show ((k : Int) + 1).toNat = k + 1 from by omega]; exact pw_pm _]
      go_wp2
      go_round
      case rel => exact ⟨k + 1, by omega, by go_num⟩
      case measure => simp [intOf]; omega
    · go_wp2
      go_ret
      exact ⟨rfl, hb⟩

/-! ### THE ROW's STEP: WRITTEN OUT: LEAVE IT -/
set_option maxRecDepth 100000 in
theorem lifted (os : Os) (started : os.Started) (H : Type) (enc : TypeId × Value → H) :
    ReturnsInHanded {} Yba.checked os 4 .any (Rows.lawS2931CWeightsSpec.pre6 enc Yba.prog Yba.f4 Rows.lawS2931CWeightsRow.domain false) (Rows.lawS2931CWeightsSpec.post enc Yba.prog Yba.f4 false true false false) := by
  refine returnsInHanded_of_change (C := Yba.checked) own started (by kernel_rfl) Yba.func4
    (ChangeSpec.witness6 (enc := enc) (C := Yba.checked) false ⟨#[], #[.int .i64 0], []⟩ 8 (by kernel_rfl) (by kernel_rfl) (by kernel_rfl) (by kernel_rfl)) ?_
  intro W base args ds gs before hval0 hW hcnd _
  have hval : ∀ (j : Nat) t v, Yba.f4.params[j]? = some t → args[j]? = some v → Value.okWide Yba.prog W .any base t v := hval0
  have hW' := hW
  obtain ⟨p, q, hA0, hV, rfl, hfz, hnd⟩ := hW
  have hA : DataW.TrodAll enc Yba.prog W 0 (fun _ => true) true Yba.f4.params.toList args.toList ds p := hA0
  rw [Yba.params4] at hA hval
  obtain ⟨v0, vs0, d0, ds0, p0, q0, hargs, rfl, rfl, h0, r0⟩ := trodAll_cons hA
  obtain ⟨rfl, rfl, rfl⟩ := trodAll_nil r0
  obtain rfl : args = #[v0] := by cases args; simp_all
  obtain ⟨rfl, rfl⟩ := trodVars_none hV
  obtain ⟨a0, rfl, rfl, rfl, w0⟩ := open_int Yba.underlying3 (hval 0 3 v0 rfl rfl) h0
  clear hA0 hval0
  simp only [List.append_nil] at hW'
  refine (walk a0 w0 W).mono fun e W' ⟨he, hg⟩ => ?_
  subst he
  refine ⟨_, rfl, _, _, _, [], [], [], hW', trodAll_cons_mk (shut_bool Yba.underlying4 _) trodAll_mk0, trodAll_cons_mk (shut_int Yba.underlying3 w0) trodAll_mk0, rfl, hg.frame _, fun h => by cases h⟩

theorem over : Rows.lawS2931CWeightsRow.holds Yba.pinned (OpenSpec.ofChange Rows.lawS2931CWeightsSpec) :=
  OpenClaim.holds_of_wide 4 Yba.f4 rfl rfl rfl rfl rfl rfl rfl ⟨rfl, rfl, rfl, rfl, rfl⟩ rfl rfl rfl rfl rfl (by kernel_rfl) Yba.func4 (by kernel_rfl)
    (of_decide_eq_true (by kernel_rfl)) (by unfold Func.isWrapper; first | (rw [if_pos (by decide +kernel)]; kernel_rfl) | (rw [if_neg (by decide +kernel)]; exact ⟨rfl, rfl⟩))
    (fun os started H enc _ => lifted os started H enc)

/-- ████ THE STATEMENT ████ -/
theorem proved : Rows.LawS2931CWeightsSaid :=
  over
end Go.Proofs.Ybulkbhrg.lawS2931CWeights
