/-
  slices.Clone, slices.Equal at this program's slice of runs, by contracts. Own work on this program.
-/
import Derived.Test.YbulkbhqsCount
import Derived.OwnWalk
import Derived.Lib.Builder
import Derived.WalkSpells
namespace Go.Proofs.Ybulkbhqs
open Go.RowKit

/-- Pointers to blocks. -/
def ptrs (l : List Nat) : List Value := l.map fun b => .pointer (some ⟨b, 0, none⟩)

theorem Yba.info45 : (Yba.prog.info? 45).map (fun i => (i.zero, i.size, i.bytes)) = some (some (.pointer none), 1, 8) := by kernel_rfl

theorem ptrs_at (l : List Nat) (i : Nat) (h : i < l.length) : (ptrs l)[i]? = some (.pointer (some ⟨l[i], 0, none⟩)) := by simp [ptrs, h]

theorem owns_succ {W : World} {base : Nat} {e : TypeId} {size : Nat} {v : Value} {k : Nat} {xs : List Value} (h : W.ownsRow base e size v k xs) (hk : 0 < k) : ∃ g cap, v = .slice (some ⟨g, 0, none⟩) k cap := by
  rcases h.2 with ⟨_, h0⟩ | ⟨g, cap, _, rfl, _⟩
  · omega
  · exact ⟨g, cap, rfl⟩

set_option maxRecDepth 100000 in
set_option maxHeartbeats 1000000 in
theorem clone_any (l : List Nat) (base : Nat) (v : Value) (W : World) (hl : 0 < l.length) (hm : l.length ≤ 1024) (h : W.ownsRow base 45 1 v l.length (ptrs l)) :
    Calls Yba.prog 11 #[v] W fun e W' => ∃ v', e = .returned v' ∧ W'.ownsRow W.heap.size 45 1 v' l.length (ptrs l) ∧ Below W.heap.size W W' := by
  obtain ⟨g, cap, rfl⟩ := owns_succ h hl
  have q41 : ∀ (w : World) (a : Option Addr) (n c : Nat), (binOp .eql 41 (.slice a n c) (.slice none 0 0)).run Yba.prog w = .ok (.bool a.isNone) w := fun w a n c => Lib.run_eql_slice_nil w 41 _ a n c 0 0 Yba.underlying41
  obtain ⟨i0, hi, hz0, hz1, hz2⟩ := info_parts Yba.info45
  have hlt : g < W.heap.size := (h.lt g rfl).2
  have hown0 : (W.alloc (.cells #[] 45)).ownsRow W.heap.size 45 1 (.slice (some ⟨W.heap.size, 0, none⟩) 0 0) 0 [] := World.ownsRow_made W #[] 0 (Nat.le_refl _) (by decide) rfl
  have hcells : ∀ j u, (ptrs l)[j]? = some u → (W.alloc (.cells #[] 45)).cell? ((⟨g, 0, none⟩ : Addr).add j) = some u := by
    intro j u hj
    have hj' : j < l.length := by
      have := (List.getElem?_eq_some_iff.1 hj).1; simpa [ptrs] using this
    have e : (⟨g, 0, none⟩ : Addr).add j = ⟨g, j, none⟩ := by simp [Addr.add]; intro e; subst e; rfl
    rw [e, World.cell?_alloc_past _ _ _ hlt, h.cellAt j (by omega)]
    exact hj
  go_enter Yba.func11, Yba.ntmps11
  go_wp2_with (at_builtin; refine wpList_append_own _ rfl _ _ 41 rfl W.heap.size 45 i0 (.pointer none) 1 8 Yba.underlying41 hi hz0 hz1 hz2 rfl (by decide) _ _ _ rfl hown0 ⟨g, 0, none⟩ l.length cap (ptrs l) rfl (by simp [ptrs]) hcells (by simp [ptrs, Value.oneCell']) (by unfold maxLen; omega) (by omega) (by simp) ?_; intro v' w1 hown' hgrow _)
  go_ret
  have hg : (W.alloc (.cells #[] 45)).grownBy w1 (some W.heap.size) := hgrow
  exact ⟨v', rfl, by simpa using hown', ((Below.refl _ W).alloc (Nat.le_refl _) _).grown hg (by simp) (fun k e => by cases e; exact Nat.le_refl _)⟩

theorem neq_same (a : Addr) (w : World) : (binOp .neq 45 (.pointer (some a)) (.pointer (some a))).run Yba.prog w = .ok (.bool false) w := by
  obtain ⟨j, hj, _⟩ := Option.map_eq_some_iff.1 Yba.info63
  exact Lib.run_neq_ptr_same w a Yba.underlying45 hj

set_option maxRecDepth 100000 in
set_option maxHeartbeats 1000000 in
theorem equal_any (l : List Nat) (b1 b2 : Nat) (v1 v2 : Value) (W : World) (hm : l.length ≤ 1024) (h1 : W.ownsRow b1 45 1 v1 l.length (ptrs l)) (h2 : W.ownsRow b2 45 1 v2 l.length (ptrs l)) :
    Calls Yba.prog 13 #[v1, v2] W fun e W' => e = .returned (.bool true) ∧ ∃ nq, W' = W.drewN nq := by
  have hns := neq_same
  by_cases h0 : l.length = 0
  · have e1 : ∃ a c, v1 = .slice a 0 c := by
      rcases h1.2 with ⟨rfl, _⟩ | ⟨g, cap, cur, rfl, _⟩
      · exact ⟨none, 0, rfl⟩
      · exact ⟨_, cap, by rw [h0]⟩
    have e2 : ∃ a c, v2 = .slice a 0 c := by
      rcases h2.2 with ⟨rfl, _⟩ | ⟨g, cap, cur, rfl, _⟩
      · exact ⟨none, 0, rfl⟩
      · exact ⟨_, cap, by rw [h0]⟩
    obtain ⟨a, c, rfl⟩ := e1
    obtain ⟨a', c', rfl⟩ := e2
    clear h1 h2
    go_enter Yba.func13, Yba.ntmps13
    go_wp2
    refine wp_loop_rounds 1 ?_
    rw [rounds_succ]
    go_wp2
    go_ret
    exact ⟨rfl, 0, rfl⟩
  · obtain ⟨g, cap, rfl⟩ := owns_succ h1 (by omega)
    obtain ⟨g', cap', rfl⟩ := owns_succ h2 (by omega)
    go_enter Yba.func13, Yba.ntmps13
    go_wp2
    go_loopw [13] (fun i wr => ∃ j nq : Nat, j ≤ l.length ∧ i = .int .i64 j ∧ wr = W.drewN nq) (fun i _ => l.length - (intOf i).toNat)
    case atStart => exact ⟨0, 0, Nat.zero_le _, rfl, rfl⟩
    case round =>
      obtain ⟨j, nq, hj, rfl, rfl⟩ := hrel
      by_cases hlt : j < l.length
      · have c1 : W.cell? ⟨g, j, none⟩ = some (.pointer (some ⟨l[j], 0, none⟩)) := (h1.cellAt j (by omega)).trans (ptrs_at l j hlt)
        have c2 : W.cell? ⟨g', j, none⟩ = some (.pointer (some ⟨l[j], 0, none⟩)) := (h2.cellAt j (by omega)).trans (ptrs_at l j hlt)
        go_wp2_with fail
        go_quiet (fail)
        go_wp2
        go_roundw
        case rel => exact ⟨j + 1, _, by omega, by go_num, rfl⟩
        case measure => simp [intOf]; omega
      · go_wp2
        go_ret
        exact ⟨rfl, nq, rfl⟩
end Go.Proofs.Ybulkbhqs
