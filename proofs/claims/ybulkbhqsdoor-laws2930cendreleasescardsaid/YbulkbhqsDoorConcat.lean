/-
  slices.Grow of a nil slice and slices.Concat of two rows, by contracts. Own work on this program.
-/
import Derived.Test.YbulkbhqsDoorSettle
import Derived.Lib.AppendZeros
import Derived.Maps.AppendAt
namespace Go.Proofs.YbulkbhqsDoor
open Go.RowKit
set_option linter.unusedVariables false

theorem ptrs_one (l : List Nat) : ∀ u ∈ ptrs l, u.oneCell' = true := by
  intro u hu
  simp only [ptrs, List.mem_map] at hu
  obtain ⟨b, _, rfl⟩ := hu
  rfl

theorem ptrs_length (l : List Nat) : (ptrs l).length = l.length := by simp [ptrs]

/-- append of a row to a row. -/
theorem append_rows {base base' n m : Nat} {l l' : List Nat} {v x : Value} {W : World} (hv : W.ownsRow base 29 1 v n (ptrs l)) (hx : W.ownsRow base' 29 1 x m (ptrs l')) (hn : n ≤ 4096) (hm : m ≤ 4096) (hb : base ≤ W.heap.size) :
    ∃ v' W', (Builtin.append_ #[27, 27] 27 #[v, x]).run Ybad.prog W = .ok v' W' ∧ W'.ownsRow base 29 1 v' (n + m) (ptrs (l ++ l')) ∧ W.grownBy W' v.ownBlock ∧ (v'.ownBlock = v.ownBlock ∨ v'.ownBlock = some W.heap.size) := by
  obtain ⟨i0, hi0, hz0, hz1, hz2⟩ := info_parts Ybad.info29
  have e : ptrs (l ++ l') = ptrs l ++ ptrs l' := by simp [ptrs]
  rcases hx.2 with ⟨rfl, rfl⟩ | ⟨g, cap, cur, rfl, _⟩
  · have hl' : ptrs l' = [] := List.eq_nil_of_length_eq_zero (by simpa using hx.1)
    refine ⟨v, W, ?_, by rw [e, hl', List.append_nil]; exact hv, ⟨rfl, rfl, rfl, Nat.le_refl _, fun _ _ _ => rfl⟩, .inl rfl⟩
    exact run_append_owned_none (P := Ybad.prog) (w := W) base 27 27 29 i0 1 Ybad.underlying27 hi0 v n (ptrs l) hv
  · obtain ⟨v', w', hr, h2, h3, h4, h5⟩ := run_append_own_at (P := Ybad.prog) W base 27 27 29 i0 (.pointer none) 1 8 Ybad.underlying27 hi0 hz0 hz1 hz2 rfl (by decide) v n (ptrs l) hv ⟨g, 0, none⟩ m cap (ptrs l') hx.1 (hx.cells (g := g) rfl) (ptrs_one l') (by unfold maxLen; omega) (by omega) hb
    exact ⟨v', w', hr, by rw [e]; exact h2, h3, h5⟩

theorem Kept.grown {W W' : World} {v : Value} (h : W.grownBy W' v.ownBlock) (S : List Nat) (hs : ∀ g, v.ownBlock = some g → g ∈ S) : Kept S W W' :=
  ⟨h.os, h.tape, h.output, h.size, fun b hb hn => h.block b hb (fun e => hn (hs b e.symm))⟩

theorem Kept.andThen {S T : List Nat} {A B C : World} (h : Kept S A B) (k : Kept T B C) (hT : ∀ x ∈ T, x ∈ S ∨ A.heap.size ≤ x) : Kept S A C :=
  ⟨k.os.trans h.os, k.tape.trans h.tape, k.output.trans h.output, Nat.le_trans h.size k.size, fun b hb hs => (k.blk b (Nat.lt_of_lt_of_le hb h.size) (fun m => (hT b m).elim hs (fun l => by omega))).trans (h.blk b hb hs)⟩

theorem Ybad.int3 : Ybad.prog.underlying 3 = some (.int .i64) := by kernel_rfl

set_option maxRecDepth 100000 in
set_option maxHeartbeats 1000000 in
theorem grow_nil (n : Nat) (W : World) (hn : n ≤ 4096) (base : Nat) (hb : base ≤ W.heap.size) :
    Calls Ybad.prog 19 #[.slice none 0 0, .int .i64 n] W fun e W' => ∃ v, e = .returned v ∧ W'.ownsRow base 29 1 v 0 (ptrs []) ∧ Kept [] W W' ∧ (v.ownBlock = none ∨ v.ownBlock = some W.heap.size) := by
  by_cases h0 : n = 0
  · subst h0
    go_enter Ybad.func19, Ybad.ntmps19
    go_wp2
    go_ret
    exact ⟨_, rfl, World.ownsRow_nil _ _ _ _, Kept.refl _ _, .inl rfl⟩
  · obtain ⟨i0, hi0, hz0, hz1, hz2⟩ := info_parts Ybad.info29
    have hap := Lib.run_append_nil_zeros (P := Ybad.prog) W 27 3 27 29 i0 (.pointer none) .i64 .i64 Ybad.underlying27 Ybad.int3 hi0 hz0 n (by omega) (by omega) (by omega) (by rw [hz2]; omega)
    have hge := grownCap_ge W n 0 29
    have hcm := grownCap_le_maxLen W n 0 29 (by unfold maxLen; omega)
    have hn0 : ((n : Int) > 0) := by omega
    have hfin : (W.drew.alloc (.cells (Builtin.zeroCells (Value.pointer none).cells n ++ Builtin.zeroCells (Value.pointer none).cells (grownCap W n 0 29 - n)) 29)).ownsRow base 29 1 (.slice (some ⟨W.heap.size, 0, none⟩) 0 (grownCap W n 0 29)) 0 (ptrs []) := by
      refine ⟨rfl, .inr ⟨W.heap.size, _, _, rfl, hb, heap_alloc_new _ _, Nat.zero_le _, hcm, ?_, rfl⟩⟩
      simp only [Array.size_append, size_zeroCells]
      simp only [Value.cells, Array.size]
      simp
      omega
    have HF := (show Hid _ from And.intro hfin hap)
    clear hfin hcm hap
    go_enter Ybad.func19, Ybad.ntmps19
    go_wp2_with (first | (at_builtin; refine Lib.wpList_append_run _ rfl (.tmp 20) (.tmp 21) 27 3 rfl (.slice none 0 0) (.int .i64 n) rfl rfl _ _ HF.out.2 ?_) | go_in)
    go_ret
    exact ⟨_, rfl, HF.out.1, (Kept.refl _ _).drew.trans (Kept.alloc _ _ _), .inr rfl⟩

theorem list2 {W : World} {s : Nat} {v1 v2 : Value} (h : W.heap[s]? = some (.cells #[v1, v2] 27 (0, 0))) : W.cell? ⟨s, 0, none⟩ = some v1 ∧ W.cell? ⟨s, 1, none⟩ = some v2 := by simp [World.cell?, h]

set_option maxRecDepth 100000 in
set_option maxHeartbeats 1000000 in
theorem concat_any {s b1 b2 : Nat} {l1 l2 : List Nat} {v1 v2 : Value} {W : World} (hs : W.heap[s]? = some (.cells #[v1, v2] 27 (0, 0))) (h1 : W.ownsRow b1 29 1 v1 l1.length (ptrs l1)) (h2 : W.ownsRow b2 29 1 v2 l2.length (ptrs l2)) (hl1 : l1.length ≤ 1024) (hl2 : l2.length ≤ 1024) (base : Nat) (hb : base ≤ W.heap.size) :
    Calls Ybad.prog 10 #[.slice (some ⟨s, 0, none⟩) 2 2] W fun e W' => ∃ v, e = .returned v ∧ W'.ownsRow base 29 1 v (l1 ++ l2).length (ptrs (l1 ++ l2)) ∧ Kept [] W W' ∧ (∀ g, v.ownBlock = some g → W.heap.size ≤ g) := by
  obtain ⟨a1, cap1, rfl⟩ := slice_form h1
  obtain ⟨a2, cap2, rfl⟩ := slice_form h2
  obtain ⟨c0, c1⟩ := list2 hs
  have hlt : s < W.heap.size := (Array.getElem?_eq_some_iff.1 hs).1
  have HG := (show Hid _ from grow_nil (l1.length + l2.length) W (by omega) base hb)
  have H1 := (show Hid _ from And.intro hs (And.intro h1 h2))
  clear hs h1 h2
  go_enter Ybad.func10, Ybad.ntmps10
  go_wp2_with fail
  refine wp_loop_rounds 3 ?_
  rw [rounds_succ]
  go_wp2_with fail
  rw [rounds_succ]
  go_wp2_with fail
  rw [rounds_succ]
  go_wp2_with fail
  refine (show Calls _ _ _ _ _ from (show ((l1.length + l2.length : Nat) : Int) = (l1.length : Int) + l2.length from by omega) ▸ HG.out).mono ?_
  rintro e W1 ⟨v, rfl, hv, k1, hvb⟩
  obtain ⟨hs, h1, h2⟩ := H1.out
  have hs1 := (k1.blk s hlt (by simp)).trans hs
  obtain ⟨d0, d1⟩ := list2 hs1
  have r1 : W1.ownsRow b1 29 1 (.slice a1 l1.length cap1) l1.length (ptrs l1) := owns_of_block h1 (fun g hg => k1.blk g (by obtain ⟨c, hc⟩ := row_blk h1 hg; exact (Array.getElem?_eq_some_iff.1 hc).1) (by simp))
  obtain ⟨v', W2, hap1, hv', hg1, hat1⟩ := append_rows hv r1 (by omega) (by omega) (Nat.le_trans hb k1.size)
  have k2 : Kept [] W W2 := k1.andThen (Kept.grown hg1 v.ownBlock.toList (by simp)) (fun x hx => .inr (by
    rcases hvb with h | h
    · rw [h] at hx; simp at hx
    · rw [h] at hx; simp at hx; omega))
  have hvb2 : ∀ g, v'.ownBlock = some g → W.heap.size ≤ g := by
    intro g hg
    rcases hat1 with h | h
    · rw [h] at hg
      rcases hvb with h' | h' <;> rw [h'] at hg <;> simp at hg
      omega
    · rw [h] at hg; have := k1.size; simp at hg; omega
  have hs2 := (k2.blk s hlt (by simp)).trans hs
  obtain ⟨f0, f1⟩ := list2 hs2
  have r2 : W2.ownsRow b2 29 1 (.slice a2 l2.length cap2) l2.length (ptrs l2) := owns_of_block h2 (fun g hg => k2.blk g (by obtain ⟨c, hc⟩ := row_blk h2 hg; exact (Array.getElem?_eq_some_iff.1 hc).1) (by simp))
  obtain ⟨v'', W3, hap2, hv'', hg2, hat2⟩ := append_rows hv' r2 (by omega) (by omega) (Nat.le_trans hb k2.size)
  have k3 : Kept [] W W3 := k2.andThen (Kept.grown hg2 v'.ownBlock.toList (by simp)) (fun x hx => .inr (hvb2 x (by simpa using hx)))
  have hs3 := (k3.blk s hlt (by simp)).trans hs
  obtain ⟨g0, g1⟩ := list2 hs3
  have hfin : W3.ownsRow base 29 1 v'' (l1 ++ l2).length (ptrs (l1 ++ l2)) := by simpa using hv''
  have hvb3 : ∀ g, v''.ownBlock = some g → W.heap.size ≤ g := by
    intro g hg
    rcases hat2 with h | h
    · rw [h] at hg; exact hvb2 g hg
    · rw [h] at hg; have := k2.size; simp at hg; omega
  have HA := (show Hid _ from And.intro hap1 hap2)
  have HF := (show Hid _ from And.intro hfin (And.intro k3 hvb3))
  clear hs h1 h2 hv k1 hvb hs1 r1 hap1 hap2 hv' hg1 hat1 k2 hvb2 hs2 r2 hv'' hg2 hat2 k3 hs3 hfin hvb3
  go_wp2_with fail
  refine wp_loop_rounds 3 ?_
  rw [rounds_succ]
  go_wp2_with (first | (at_builtin; refine Lib.wpList_append_run _ rfl (.tmp 31) (.tmp 32) 27 27 rfl v (.slice a1 l1.length cap1) rfl rfl _ _ HA.out.1 ?_) | go_in)
  rw [rounds_succ]
  go_wp2_with (first | (at_builtin; refine Lib.wpList_append_run _ rfl (.tmp 31) (.tmp 32) 27 27 rfl v' (.slice a2 l2.length cap2) rfl rfl _ _ HA.out.2 ?_) | go_in)
  rw [rounds_succ]
  go_wp2_with fail
  go_ret
  exact ⟨_, rfl, HF.out⟩
end Go.Proofs.YbulkbhqsDoor
