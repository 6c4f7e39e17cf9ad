/-
  A proof of 'Rows.LawS2930BLeaveSaid'. The frame is the given shell (written by program for this function), its opening turned to a slice of structs and an array; the walk is by hand.
-/
import Derived.Test.YbulkbhqsRows
import Derived.Test.YbulkbhqsLaw
import Derived.WalkKit
import Derived.ProofKit
import Derived.OpenShut
import Derived.ShutString
import Derived.ChangeOld
import Derived.Below
import Derived.Deep.Slices
import Derived.Laws.IdiomArrays
namespace Go.Proofs.Ybulkbhqs.lawS2930BLeave
open Go.ChangeShapes Go.WideShapes Go.ChangeAt Go.RowKit
open Go.ChangeMaps (open_string shut_string)
set_option linter.unusedVariables false

theorem own : ownKnob Yba.prog.godebug = none := by kernel_rfl
theorem laidOut : laidOutB Yba.prog = true := by kernel_rfl

/-! ### THE ARGUMENT, OPENED -/
theorem cells52 : Yba.prog.cellsOf 52 = 5 := by kernel_rfl
theorem cells5 : Yba.prog.cellsOf 5 = 1 := by kernel_rfl
theorem cells4 : Yba.prog.cellsOf 4 = 1 := by kernel_rfl
theorem cells39 : Yba.prog.cellsOf 39 = 1 := by kernel_rfl
theorem cells33 : Yba.prog.cellsOf 33 = 4 := by kernel_rfl

theorem cell_lt {W : World} {a : Addr} {v : Value} (h : W.cell? a = some v) : a.block < W.heap.size := by
  unfold World.cell? at h
  cases ho : W.heap[a.block]? with
  | none => simp [ho] at h
  | some o => exact (Array.getElem?_eq_some_iff.1 ho).1

theorem add_plain (b o k : Nat) : (⟨b, o, none⟩ : Addr).add k = ⟨b, o + k, none⟩ := by
  unfold Addr.add; split <;> simp_all

theorem list4 {α : Type} (l : List α) (h : (⟨l⟩ : Array α).size = 4) : ∃ a b c d, l = [a, b, c, d] := by
  match l, h with
  | [a, b, c, d], _ => exact ⟨a, b, c, d, rfl⟩

set_option maxRecDepth 100000 in
theorem open_runs {H : Type} {enc : TypeId × Value → H} {W : World} {ao : Option Addr} {len cap : Nat} {d : DataW H} {ps : List MemPlace} (h : DataW.Trod enc Yba.prog W 0 (fun _ => true) true 31 (.slice ao len cap) d ps) (h0 : 0 < len) :
    ∃ (b off : Nat) (ix key : Nat → Int) (dn : Nat → Bool) (hl pr : Nat → Int), ao = some ⟨b, off, none⟩ ∧ IsRuns W b off len ix key dn hl pr := by
  obtain ⟨fuel, hf⟩ := h
  rcases Deep.open_slice Yba.underlying31 hf with ⟨hcs, _⟩ | ⟨a, len', cap', q, n, D, Pl, hcs, _, hl, _, hq, _, hx⟩
  · simp [Value.cells] at hcs
    omega
  · simp [Value.cells] at hcs
    obtain ⟨rfl, rfl, rfl⟩ := hcs
    simp at hq
    subst hq
    rw [cells52] at hx
    have each : ∀ i, i < len → ∃ z : Int × Int × Bool × Int × Int, W.cell? (a.add (i * 5)) = some (.int .u8 z.1) ∧ W.cell? (a.add (i * 5 + 1)) = some (.int .u8 z.2.1) ∧ W.cell? (a.add (i * 5 + 2)) = some (.bool z.2.2.1) ∧ W.cell? (a.add (i * 5 + 3)) = some (.int .u8 z.2.2.2.1) ∧ W.cell? (a.add (i * 5 + 4)) = some (.int .u64 z.2.2.2.2) ∧
        0 ≤ z.1 ∧ z.1 ≤ 255 ∧ 0 ≤ z.2.1 ∧ z.2.1 ≤ 255 ∧ 0 ≤ z.2.2.2.1 ∧ z.2.2.2.1 ≤ 255 := by
      intro i hi
      obtain ⟨cs', h1, h2⟩ := hx i (by omega)
      obtain ⟨_, hlen, hcell⟩ := World.cells?_some h1
      obtain ⟨xs, k, _, _, _, hxl, hf⟩ := DataW.trod_struct Yba.underlying52 h2
      match xs, hxl, cs', hlen with
      | [y0, y1, y2, y3, y4], _, [v0, v1, v2, v3, v4], _ =>
        have g0 := hf 0 _ rfl
        have g1 := hf 1 _ rfl
        have g2 := hf 2 _ rfl
        have g3 := hf 3 _ rfl
        have g4 := hf 4 _ rfl
        simp [cells5, cells4, cells39] at g0 g1 g2 g3 g4
        obtain ⟨z0, e0, _, w0⟩ := DataW.trod_int Yba.underlying5 g0
        obtain ⟨z1, e1, _, w1⟩ := DataW.trod_int Yba.underlying5 g1
        obtain ⟨z2, e2, _⟩ := DataW.trod_bool Yba.underlying4 g2
        obtain ⟨z3, e3, _, w3⟩ := DataW.trod_int Yba.underlying5 g3
        obtain ⟨z4, e4, _, _⟩ := DataW.trod_int Yba.underlying39 g4
        simp at e0 e1 e2 e3 e4
        subst e0 e1 e2 e3 e4
        have c0 := hcell 0 (by omega)
        have c1 := hcell 1 (by omega)
        have c2 := hcell 2 (by omega)
        have c3 := hcell 3 (by omega)
        have c4 := hcell 4 (by omega)
        rw [Deep.add_add] at c0 c1 c2 c3 c4
        have b0 := bounds_u8 w0
        have b1 := bounds_u8 w1
        have b3 := bounds_u8 w3
        exact ⟨(z0, z1, z2, z3, z4), by simpa using c0, by simpa using c1, by simpa using c2, by simpa using c3, by simpa using c4, b0.1, b0.2, b1.1, b1.2, b3.1, b3.2⟩
    obtain ⟨z, hz⟩ := Deep.choose_lt each
    have s := World.cell?_spot (hz 0 h0).1
    have hlt := cell_lt (hz 0 h0).1
    obtain ⟨ab, ao, asp⟩ := a
    simp [Addr.add] at s hlt
    subst s
    refine ⟨ab, ao, fun i => (z i).1, fun i => (z i).2.1, fun i => (z i).2.2.1, fun i => (z i).2.2.2.1, fun i => (z i).2.2.2.2, rfl, hlt, fun i hi => ?_, fun i hi => ?_⟩
    · obtain ⟨c0, c1, c2, c3, c4, _⟩ := hz i hi
      rw [add_plain] at c0 c1 c2 c3 c4
      exact ⟨c0, by rw [Nat.add_assoc]; exact c1, by rw [Nat.add_assoc]; exact c2, by rw [Nat.add_assoc]; exact c3, by rw [Nat.add_assoc]; exact c4⟩
    · obtain ⟨_, _, _, _, _, q⟩ := hz i hi
      exact q

/-! ### THE WALK -/
set_option maxRecDepth 100000 in
set_option maxHeartbeats 1000000 in
theorem walk_off (ao : Option Addr) (len cap : Nat) (a1 a2 x0 x1 x2 x3 : Int) (h : len = 0 ∨ 1024 < len) (W : World) :
    Calls Yba.prog 5 #[.slice ao len cap, .int .u8 a1, .int .u16 a2, .agg #[.int .u8 x0, .int .u8 x1, .int .u8 x2, .int .u8 x3]] W fun e W' => e = .returned (.bool true) ∧ Below W.heap.size W W' := by
  rcases h with rfl | h
  · go_enter Yba.func5, Yba.ntmps5
    go_wp2
    go_ret
    exact ⟨rfl, (Below.refl _ _).alloc (Nat.le_refl _) _⟩
  · have hz : ((len : Int) == 0) = false := beq_eq_false_iff_ne.2 (by omega)
    go_enter Yba.func5, Yba.ntmps5
    go_wp2
    go_ret
    exact ⟨rfl, (Below.refl _ _).alloc (Nat.le_refl _) _⟩

/-! ### THE ROW's STEP -/
set_option maxRecDepth 100000 in
theorem lifted (os : Os) (started : os.Started) (H : Type) (enc : TypeId × Value → H) :
    ReturnsInHanded {} Yba.checked os 5 .any (Rows.lawS2930BLeaveSpec.pre6 enc Yba.prog Yba.f5 Rows.lawS2930BLeaveRow.domain false) (Rows.lawS2930BLeaveSpec.post enc Yba.prog Yba.f5 false true false false) := by
  refine returnsInHanded_of_change (C := Yba.checked) own started (by kernel_rfl) Yba.func5
    (ChangeSpec.witness6 (enc := enc) (C := Yba.checked) false ⟨#[], #[.slice none 0 0, .int .u8 0, .int .u16 0, .agg #[.int .u8 0, .int .u8 0, .int .u8 0, .int .u8 0]], []⟩ 8 (by kernel_rfl) (by kernel_rfl) (by kernel_rfl) (by kernel_rfl)) ?_
  intro W base args ds gs before hval0 hW hcnd _
  have hval : ∀ (j : Nat) t v, Yba.f5.params[j]? = some t → args[j]? = some v → Value.okWide Yba.prog W .any base t v := hval0
  have hW' := hW
  obtain ⟨p, q, hA0, hV, rfl, hfz, hnd⟩ := hW
  have hA : DataW.TrodAll enc Yba.prog W 0 (fun _ => true) true Yba.f5.params.toList args.toList ds p := hA0
  rw [Yba.params5] at hA hval
  obtain ⟨v0, vs0, d0, ds0, p0, q0, hargs, rfl, rfl, h0, r0⟩ := trodAll_cons hA
  obtain ⟨v1, vs1, d1, ds1, p1, q1, rfl, rfl, rfl, h1, r1⟩ := trodAll_cons r0
  obtain ⟨v2, vs2, d2, ds2, p2, q2, rfl, rfl, rfl, h2, r2⟩ := trodAll_cons r1
  obtain ⟨v3, vs3, d3, ds3, p3, q3, rfl, rfl, rfl, h3, r3⟩ := trodAll_cons r2
  obtain ⟨rfl, rfl, rfl⟩ := trodAll_nil r3
  obtain rfl : args = #[v0, v1, v2, v3] := by cases args; simp_all
  obtain ⟨rfl, rfl⟩ := trodVars_none hV
  obtain ⟨a0, len0, cap0, rfl⟩ := okWide_slice Yba.underlying31 (hval 0 31 v0 rfl rfl)
  have k0 := h0
  have lt0 : ∀ x ∈ p0, x.block < W.heap.size := by obtain ⟨m, hm⟩ := k0; exact DataW.trod_lt m _ _ _ hm
  obtain ⟨a1, rfl, rfl, rfl, w1⟩ := open_int Yba.underlying5 (hval 1 5 v1 rfl rfl) h1
  obtain ⟨a2, rfl, rfl, rfl, w2⟩ := open_int Yba.underlying32 (hval 2 32 v2 rfl rfl) h2
  obtain ⟨cs, rfl, hsz, _⟩ : ∃ cs, v3 = .agg cs ∧ cs.size = Yba.prog.cellsOf 33 ∧ Row.okWide Yba.prog W .any base 33 cs := by
    have := hval 3 33 v3 rfl rfl
    simpa [Value.okWide, Yba.underlying33] using this
  rw [cells33] at hsz
  obtain ⟨l⟩ := cs
  obtain ⟨c0, c1, c2, c3, rfl⟩ := list4 l hsz
  have k3 := h3
  have lt3 : ∀ x ∈ p3, x.block < W.heap.size := by obtain ⟨m, hm⟩ := k3; exact DataW.trod_lt m _ _ _ hm
  obtain ⟨fuel, hf⟩ := h3
  obtain ⟨y0, y1, y2, y3, m, hx, hy0, hy1, hy2, hy3⟩ := trod_array4 Yba.underlying33 cells5 hf
  obtain ⟨x0, e0, _, u0⟩ := DataW.trod_int Yba.underlying5 hy0
  obtain ⟨x1, e1, _, u1⟩ := DataW.trod_int Yba.underlying5 hy1
  obtain ⟨x2, e2, _, u2⟩ := DataW.trod_int Yba.underlying5 hy2
  obtain ⟨x3, e3, _, u3⟩ := DataW.trod_int Yba.underlying5 hy3
  simp at e0 e1 e2 e3
  subst e0 e1 e2 e3
  clear hA0 hval0
  have hall : Calls Yba.prog 5 #[.slice a0 len0 cap0, .int .u8 a1, .int .u16 a2, .agg #[.int .u8 x0, .int .u8 x1, .int .u8 x2, .int .u8 x3]] W fun e W' => e = .returned (.bool true) ∧ Below W.heap.size W W' := by
    by_cases hl : len0 = 0 ∨ 1024 < len0
    · exact walk_off a0 len0 cap0 a1 a2 x0 x1 x2 x3 hl W
    · obtain ⟨b, off, ix, key, dn, hl', pr, rfl, hs⟩ := open_runs k0 (by omega)
      exact law_good len0 cap0 b off (by omega) (by omega) a1 a2 x0 x1 x2 x3 ix key dn hl' pr W hs (bounds_u8 u0) (bounds_u8 u1) (bounds_u8 u2) (bounds_u8 u3) (bounds_u8 w1) (bounds_u16 w2)
  refine hall.mono fun e W' ⟨he, bel⟩ => ?_
  subst he
  exact ⟨_, rfl, _, _, _, [], _, [], hW', trodAll_mk1 (shut_bool Yba.underlying4 _), (trodAll_cons_mk (Below.trod laidOut (by kernel_rfl) (of_decide_eq_true (by kernel_rfl)) k0 bel lt0) (trodAll_cons_mk (shut_int Yba.underlying5 w1) (trodAll_cons_mk (shut_int Yba.underlying32 w2) (trodAll_cons_mk (Below.trod laidOut (by kernel_rfl) (of_decide_eq_true (by kernel_rfl)) k3 bel lt3) trodAll_mk0)))), rfl, bel.frame _, fun h => by cases h⟩

theorem over : Rows.lawS2930BLeaveRow.holds Yba.pinned (OpenSpec.ofChange Rows.lawS2930BLeaveSpec) :=
  OpenClaim.holds_of_wide 5 Yba.f5 rfl rfl rfl rfl rfl rfl rfl ⟨rfl, rfl, rfl, rfl, rfl⟩ rfl rfl rfl rfl rfl (by kernel_rfl) Yba.func5 (by kernel_rfl)
    (of_decide_eq_true (by kernel_rfl)) (by unfold Func.isWrapper; first | (rw [if_pos (by decide +kernel)]; kernel_rfl) | (rw [if_neg (by decide +kernel)]; exact ⟨rfl, rfl⟩))
    (fun os started H enc _ => lifted os started H enc)

/-- ████ THE STATEMENT ████ -/
theorem proved : Rows.LawS2930BLeaveSaid := over
end Go.Proofs.Ybulkbhqs.lawS2930BLeave
