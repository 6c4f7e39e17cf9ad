/-
  'zzs2931cpow' by a contract: the power modulo 2^64. Own work on this program.
-/
import Derived.Test.YbulkbhrgRows
import Derived.WalkKit
import Derived.WalkSmall
import Derived.ProofKit
import Derived.OpenShut
namespace Go.Proofs.Ybulkbhrg
open Go.ChangeShapes Go.WideShapes Go.ChangeAt Go.RowKit

/-- The modulus, kept behind a name. -/
def md : Nat := 18446744073709551616

/-- The power, modulo 2^64. -/
def pm (b e : Nat) : Int := ((b ^ e % md : Nat) : Int)

theorem ret_int {k : IntKind} {a b : Int} (h : a = b) : Ending.returned (.int k a) = .returned (.int k b) := by rw [h]

theorem wrap_mul (a b : Nat) : IntKind.u64.wrap ((a : Int) * (b : Int)) = ((a * b % md : Nat) : Int) := by
  rw [IntKind.wrap_u64]; unfold md; omega

theorem md_lt (a : Nat) : a % md < md := Nat.mod_lt _ (by unfold md; omega)

/-- One step, the exponent odd. -/
theorem step_odd (r b e : Nat) (h : e % 2 = 1) : (r * b % md) * (b * b % md) ^ (e / 2) % md = r * b ^ e % md := by
  have e1 : e = 2 * (e / 2) + 1 := by omega
  rw [Nat.mul_mod, Nat.mod_mod, ← Nat.pow_mod, ← Nat.mul_mod]
  conv => rhs; rw [e1, Nat.pow_succ, Nat.pow_mul, Nat.pow_two]
  rw [Nat.mul_assoc, Nat.mul_comm b]

/-- One step, the exponent even. -/
theorem step_even (r b e : Nat) (h : e % 2 = 0) : r * (b * b % md) ^ (e / 2) % md = r * b ^ e % md := by
  have e1 : e = 2 * (e / 2) := by omega
  rw [Nat.mul_mod, ← Nat.pow_mod, ← Nat.mul_mod]
  conv => rhs; rw [e1, Nat.pow_mul, Nat.pow_two]

set_option maxHeartbeats 400000 in
theorem pow_any (b e : Int) (w : World) (hb0 : 0 ≤ b) (he0 : 0 ≤ e) (he1 : e ≤ 4096) :
    Calls Yba.prog 6 #[.int .u64 b, .int .u64 e] w fun x w' => x = .returned (.int .u64 (pm b.toNat e.toNat)) ∧ w' = w := by
  obtain ⟨b, rfl⟩ := Int.eq_ofNat_of_zero_le hb0
  obtain ⟨e, rfl⟩ := Int.eq_ofNat_of_zero_le he0
  rw [Int.toNat_natCast, Int.toNat_natCast]
  go_enter Yba.func6, Yba.ntmps6
  go_wp2
  go_loop [0, 1, 5] (fun vb ve vr => ∃ B E R : Nat, vb = .int .u64 B ∧ ve = .int .u64 E ∧ vr = .int .u64 R ∧ E ≤ 4096 ∧ R < md ∧ Hid (R * B ^ E % md = b ^ e % md)) (fun _ ve _ => (intOf ve).toNat)
  case atStart => exact ⟨b, e, 1, rfl, rfl, rfl, by omega, by unfold md; omega, by show 1 * b ^ e % md = _; rw [Nat.one_mul]⟩
  case round =>
    obtain ⟨B, E, R, rfl, rfl, rfl, hE, hR, H⟩ := hrel
    by_cases hpos : 0 < E
    · have ha : bits BinOp.and IntKind.u64 (E : Int) 1 = (E : Int) % 2 := and_one_u64 _ (by omega) (by omega)
      by_cases hodd : E % 2 = 1
      · have ht : ((E : Int) % 2 == 1) = true := beq_iff_eq.2 (by omega)
        have ho := (show Hid (E % 2 = 1) from hodd)
        clear hodd
        go_wp2
        go_round
        case rel => exact ⟨B * B % md, E / 2, R * B % md, by rw [wrap_mul], by go_num, by rw [wrap_mul], by omega, md_lt _, (step_odd R B E ho.out).trans H.out⟩
        case measure => simp [intOf]; omega
      · have ht : ((E : Int) % 2 == 1) = false := beq_eq_false_iff_ne.2 (by omega)
        have ho := (show Hid (E % 2 = 0) from (by omega : E % 2 = 0))
        clear hodd
        go_wp2
        go_round
        case rel => exact ⟨B * B % md, E / 2, R, by rw [wrap_mul], by go_num, rfl, by omega, hR, (step_even R B E ho.out).trans H.out⟩
        case measure => simp [intOf]; omega
    · go_wp2
      go_ret
      have e0 : E = 0 := by omega
      subst e0
      have H' := H.out
      rw [Nat.pow_zero, Nat.mul_one, Nat.mod_eq_of_lt hR] at H'
      exact ⟨ret_int (by unfold pm; rw [← H']), rfl⟩
end Go.Proofs.Ybulkbhrg
