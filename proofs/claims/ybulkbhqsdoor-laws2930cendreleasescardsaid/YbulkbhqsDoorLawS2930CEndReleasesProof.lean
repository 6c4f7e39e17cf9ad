/-
  A proof of 'Rows.LawS2930CEndReleasesSaid' (the row) and of 'Rows.LawS2930CEndReleasesCardSaid' (the tied card). The frame after the guide's worked texts, turned to this program; the walk is by hand.
-/
import Derived.Test.YbulkbhqsDoorRows
import Derived.Test.YbulkbhqsDoorTie
import Derived.Test.YbulkbhqsDoorCards
import Derived.Test.YbulkbhqsDoorLawQ
import Derived.ProofKit
import Derived.OpenShut
import Derived.LaidMore
import Derived.Lay
import Derived.OpenVars
import Derived.SevenTiedAt
import Derived.Stop.Joined
import Derived.Deep.Slices
namespace Go.Proofs.YbulkbhqsDoor.lawS2930CEndReleases
open Go.ChangeShapes Go.WideShapes Go.ChangeAt Go.RowKit
set_option linter.unusedVariables false

theorem own : ownKnob Ybad.prog.godebug = none := by kernel_rfl
theorem laidOut : laidOutB Ybad.prog = true := by kernel_rfl
theorem cells42 : Ybad.prog.cellsOf 42 = 4 := by kernel_rfl
theorem cells5 : Ybad.prog.cellsOf 5 = 1 := by kernel_rfl
theorem cells4 : Ybad.prog.cellsOf 4 = 1 := by kernel_rfl

theorem cellb_lt {W : World} {a : Addr} {v : Value} (h : W.cell? a = some v) : a.block < W.heap.size := by
  unfold World.cell? at h
  cases ho : W.heap[a.block]? with
  | none => simp [ho] at h
  | some o => exact (Array.getElem?_eq_some_iff.1 ho).1

theorem add_plain (b o k : Nat) : (⟨b, o, none⟩ : Addr).add k = ⟨b, o + k, none⟩ := by
  unfold Addr.add; split <;> simp_all

set_option maxRecDepth 100000 in
theorem open_ops {H : Type} {enc : TypeId × Value → H} {W : World} {ao : Option Addr} {len cap : Nat} {d : DataW H} {ps : List MemPlace} (h : DataW.Trod enc Ybad.prog W 0 (fun _ => true) true 22 (.slice ao len cap) d ps) (h0 : 0 < len) :
    ∃ (b off : Nat) (ow : Nat → Bool) (ob md : Nat → Nat) (xp : Nat → Bool), ao = some ⟨b, off, none⟩ ∧ IsOps W b off len ow ob md xp := by
  obtain ⟨fuel, hf⟩ := h
  rcases Deep.open_slice Ybad.underlying22 hf with ⟨hcs, _⟩ | ⟨a, len', cap', q, n, D, Pl, hcs, _, hl, _, hq, _, hx⟩
  · simp [Value.cells] at hcs
    omega
  · simp [Value.cells] at hcs
    obtain ⟨rfl, rfl, rfl⟩ := hcs
    simp at hq
    subst hq
    rw [cells42] at hx
    have each : ∀ i, i < len → ∃ z : Bool × Nat × Nat × Bool, W.cell? (a.add (i * 4)) = some (.bool z.1) ∧ W.cell? (a.add (i * 4 + 1)) = some (.int .u8 z.2.1) ∧ W.cell? (a.add (i * 4 + 2)) = some (.int .u8 z.2.2.1) ∧ W.cell? (a.add (i * 4 + 3)) = some (.bool z.2.2.2) ∧
        z.2.1 ≤ 255 ∧ z.2.2.1 ≤ 255 := by
      intro i hi
      obtain ⟨cs', h1, h2⟩ := hx i (by omega)
      obtain ⟨_, hlen, hcell⟩ := World.cells?_some h1
      obtain ⟨xs, k, _, _, _, hxl, hf⟩ := DataW.trod_struct Ybad.underlying42 h2
      match xs, hxl, cs', hlen with
      | [y0, y1, y2, y3], _, [v0, v1, v2, v3], _ =>
        have g0 := hf 0 _ rfl
        have g1 := hf 1 _ rfl
        have g2 := hf 2 _ rfl
        have g3 := hf 3 _ rfl
        simp [cells5, cells4] at g0 g1 g2 g3
        obtain ⟨z0, e0, _⟩ := DataW.trod_bool Ybad.underlying4 g0
        obtain ⟨z1, e1, _, w1⟩ := DataW.trod_int Ybad.underlying5 g1
        obtain ⟨z2, e2, _, w2⟩ := DataW.trod_int Ybad.underlying5 g2
        obtain ⟨z3, e3, _⟩ := DataW.trod_bool Ybad.underlying4 g3
        simp at e0 e1 e2 e3
        subst e0 e1 e2 e3
        have c0 := hcell 0 (by omega)
        have c1 := hcell 1 (by omega)
        have c2 := hcell 2 (by omega)
        have c3 := hcell 3 (by omega)
        rw [Deep.add_add] at c0 c1 c2 c3
        have b1 := bounds_u8 w1
        have b2 := bounds_u8 w2
        obtain ⟨n1, rfl⟩ : ∃ n : Nat, z1 = n := ⟨z1.toNat, by omega⟩
        obtain ⟨n2, rfl⟩ : ∃ n : Nat, z2 = n := ⟨z2.toNat, by omega⟩
        exact ⟨(z0, n1, n2, z3), by simpa using c0, by simpa using c1, by simpa using c2, by simpa using c3, by show n1 ≤ 255; omega, by show n2 ≤ 255; omega⟩
    obtain ⟨z, hz⟩ := Deep.choose_lt each
    have s := World.cell?_spot (hz 0 h0).1
    have hlt := cellb_lt (hz 0 h0).1
    obtain ⟨ab, ao, asp⟩ := a
    simp [Addr.add] at s hlt
    subst s
    refine ⟨ab, ao, fun i => (z i).1, fun i => (z i).2.1, fun i => (z i).2.2.1, fun i => (z i).2.2.2, rfl, hlt, fun i hi => ?_, fun i hi => ?_⟩
    · obtain ⟨c0, c1, c2, c3, _⟩ := hz i hi
      rw [add_plain] at c0 c1 c2 c3
      exact ⟨c0, by rw [Nat.add_assoc]; exact c1, by rw [Nat.add_assoc]; exact c2, by rw [Nat.add_assoc]; exact c3⟩
    · obtain ⟨_, _, _, _, q⟩ := hz i hi
      exact q

set_option maxRecDepth 100000 in
set_option maxHeartbeats 1000000 in
theorem walk_off (ao : Option Addr) (len cap : Nat) (en : Bool) (h : 512 < len) (W : World) :
    Calls Ybad.prog 3 #[.slice ao len cap, .bool en] W fun e W' => e = .returned (.bool true) ∧ Below W.heap.size W W' := by
  go_enter Ybad.func3, Ybad.ntmps3
  go_wp2
  go_ret
  exact ⟨rfl, Below.refl _ _⟩

set_option maxRecDepth 100000 in
theorem lifted (os : Os) (started : os.Started) (H : Type) (enc : TypeId × Value → H) :
    ReturnsInHanded {} Ybad.checked os 3 .any (fun w args => (Rows.lawS2930CEndReleasesSpec.pre enc Ybad.prog Ybad.f3 Rows.lawS2930CEndReleasesRow.domain false w args ∧ laidMetH Ybad.prog Rows.lawS2930CEndReleasesRow.laid w) ∧ sizedMet enc Ybad.prog Ybad.f3 (OpenSpec.ofChange Rows.lawS2930CEndReleasesSpec) false w args)
      (Rows.lawS2930CEndReleasesSpec.post enc Ybad.prog Ybad.f3 false true false false) := by
  refine returnsInHanded_of_change_and (C := Ybad.checked) (X := fun w _ => laidMetH Ybad.prog Rows.lawS2930CEndReleasesRow.laid w) (fun _ _ _ hh h => h.of_heap hh) own started (by kernel_rfl) Ybad.func3
    (ChangeSpec.witness_shaped (enc := enc) (C := Ybad.checked) (os := os) (X := fun w _ => laidMetH Ybad.prog Rows.lawS2930CEndReleasesRow.laid w) false (World.laidAll Ybad.prog os Rows.lawS2930CEndReleasesRow.laid) #[.slice none 0 0, .bool false] 8 (World.laidAll_os _ _ _)
      (World.shaped_of_ZipB (by kernel_rfl) (by kernel_rfl)) (by kernel_rfl) (by kernel_rfl) (by kernel_rfl)
      (by rw [MakeChecks.laidMetH_plain _ _ _ (by kernel_rfl)]; exact laidMet_laidAll _ (by kernel_rfl) (by kernel_rfl))) ?_
  intro W base args ds gs before hval0 hW hc _ hL _
  have hval : ∀ (j : Nat) t v, Ybad.f3.params[j]? = some t → args[j]? = some v → Value.okWide Ybad.prog W .any base t v := hval0
  have hW' := hW
  obtain ⟨p, q, hA0, hV, rfl, hfz, hnd⟩ := hW
  have hA : DataW.TrodAll enc Ybad.prog W 0 (fun _ => true) true Ybad.f3.params.toList args.toList ds p := hA0
  rw [Ybad.params3] at hA hval
  obtain ⟨v0, vs0, d0, ds0, p0, q0, hargs, rfl, rfl, h0, r0⟩ := trodAll_cons hA
  obtain ⟨v1, vs1, d1, ds1, p1, q1, rfl, rfl, rfl, h1, r1⟩ := trodAll_cons r0
  obtain ⟨rfl, rfl, rfl⟩ := trodAll_nil r1
  obtain rfl : args = #[v0, v1] := by cases args; simp_all
  obtain ⟨a0, len0, cap0, rfl⟩ := okWide_slice Ybad.underlying22 (hval 0 22 v0 rfl rfl)
  have k0 := h0
  have lt0 : ∀ x ∈ p0, x.block < W.heap.size := by obtain ⟨m, hm⟩ := k0; exact DataW.trod_lt m _ _ _ hm
  obtain ⟨en, rfl, rfl, rfl⟩ := open_bool Ybad.underlying4 (hval 1 4 v1 rfl rfl) h1
  clear hA0 hval0
  have hall : Calls Ybad.prog 3 #[.slice a0 len0 cap0, .bool en] W fun e W' => e = .returned (.bool true) ∧ Below W.heap.size W W' := by
    by_cases hl : 512 < len0
    · exact walk_off a0 len0 cap0 en hl W
    · by_cases hz : 0 < len0
      · obtain ⟨b, off, ow, ob, md, xp, rfl, hs⟩ := open_ops k0 hz
        exact law_good len0 cap0 b off _ (fun _ => rfl) (by omega) en ow ob md xp W (fun _ => hs)
      · exact law_good len0 cap0 0 0 a0 (fun h => absurd h hz) (by omega) en (fun _ => false) (fun _ => 0) (fun _ => 0) (fun _ => false) W (fun h => absurd h hz)
  have hvars : ∃ g1, gs = [g1] := by
    have hV1 : DataW.TrodVars enc Ybad.prog W (fun _ => true) ["example.com/keyfence/keyfence.compatible"] gs q := hV
    obtain ⟨g, t, cs, fuel, d, p', rfl, _⟩ := trodVars_one hV1
    exact ⟨_, rfl⟩
  obtain ⟨g1, rfl⟩ := hvars
  refine hall.mono fun e W' ⟨he, bel⟩ => ?_
  subst he
  exact ⟨_, rfl, _, _, _, [], _, q, hW', trodAll_mk1 (shut_bool Ybad.underlying4 _), (trodAll_cons_mk (Below.trod laidOut (by kernel_rfl) (of_decide_eq_true (by kernel_rfl)) k0 bel lt0) (trodAll_cons_mk (shut_bool Ybad.underlying4 _) trodAll_mk0)), bel.trodVars laidOut (by kernel_rfl) hV, bel.frame _, fun h => by cases h⟩

theorem over : Rows.LawS2930CEndReleasesSaid :=
  OpenClaim.holds_of_wide 3 Ybad.f3 rfl rfl rfl rfl rfl rfl rfl ⟨rfl, rfl, rfl, rfl, rfl⟩ rfl rfl rfl rfl rfl (by kernel_rfl) Ybad.func3 (by kernel_rfl)
    (of_decide_eq_true (by kernel_rfl)) (by unfold Func.isWrapper; first | (rw [if_pos (by decide +kernel)]; kernel_rfl) | (rw [if_neg (by decide +kernel)]; exact ⟨rfl, rfl⟩))
    (fun os started H enc _ => lifted os started H enc)

/-- ████ THE STATEMENT: THE TIED CARD ████ -/
theorem proved : Rows.LawS2930CEndReleasesCardSaid :=
  Claim7.holds_tied_plain_at .later [] [.data, .data] true (true, "68e25290de84ff285e66de5e593a34377f780c44074cbb392b0e9ba314c1d80b") false over (fun _ h => by cases h) (by kernel_rfl) (fun _ h => by cases h) lawS2930CEndReleases_row_tie rfl ⟨rfl, rfl⟩ (by kernel_rfl) rfl
    (fun f fn hf hfn => by
      obtain rfl : f = 3 := Option.some.inj ((show Ybad.prog.funcNamed "example.com/keyfence/keyfence.LawS2930CEndReleases" = some 3 by kernel_rfl).symm.trans hf) |>.symm
      obtain rfl : fn = Ybad.f3 := (Option.some.inj (Ybad.func3.symm.trans hfn)).symm
      exact ⟨by kernel_rfl, fun j t ht => by
        rw [Ybad.params3] at ht
        have hm : t ∈ [22, 4] := by simpa using Array.mem_of_getElem? ht
        have hall : ([22, 4].all fun u => !Ybad.prog.wantsStandIn u) = true := by kernel_rfl
        exact (show Ybad.prog.wantsStandIn t = false by simpa using List.all_eq_true.1 hall t hm)⟩)
    (by kernel_rfl)
end Go.Proofs.YbulkbhqsDoor.lawS2930CEndReleases
