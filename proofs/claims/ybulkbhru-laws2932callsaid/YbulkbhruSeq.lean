/-
  The sequence of the laws ('zzs2932cseq', its closure) by contracts. Own work on this program.
-/
import Derived.RangeFuncNested
import Derived.RangeFuncBound
import Derived.RangeFuncCalls
import Derived.RangeFuncLeaves
import Derived.Shelf.Abstract
import Derived.Shelf.RegionOpen
import Derived.WalkKit
import Derived.OwnWalkIn
import Derived.TacticsInMore
import Derived.LoopNIn
import Derived.LoopIn
import Derived.Maps.AppendAt
import Derived.Test.YbulkbhruRows
namespace Go.Proofs.Ybulkbhru
open Go.RowKit Go.Shelf
attribute [local go_sem] Oper.semAt_some

set_option maxRecDepth 100000 in
set_option maxHeartbeats 1000000 in
/-- 'zzs2932cseq': four boxes, and the closure over them. -/
theorem seq_any (ao : Option Addr) (len cap : Nat) (k : Int) (pc pr : Option Addr) (w : World) :
    Calls Yba.prog 6 #[.slice ao len cap, .int .i64 k, .pointer pc, .pointer pr] w fun e w' =>
      e = .returned (.func (.func 8) #[] #[.pointer (some ⟨w.heap.size + 2, 0, none⟩), .pointer (some ⟨w.heap.size + 1, 0, none⟩), .pointer (some ⟨w.heap.size, 0, none⟩), .pointer (some ⟨w.heap.size + 3, 0, none⟩)]) ∧
      w' = (((w.alloc (.cells #[.slice ao len cap] 22)).alloc (.cells #[.int .i64 k] 3)).alloc (.cells #[.pointer pc] 27)).alloc (.cells #[.pointer pr] 28) := by
  go_enter Yba.func6, Yba.ntmps6
  go_wp2
  go_ret
  exact ⟨rfl, rfl⟩

set_option maxRecDepth 100000 in
set_option maxHeartbeats 1000000 in
/-- The closure, walked: it notes the run, and yields the first k elements, one after the other; every round says 'go on'. -/
theorem seq1_in (n l bC bK bI bR C : Nat) (hn : 1 ≤ n) (k : Nat) (ao : Option Addr) (b off len cap : Nat) (hk : k ≤ len) (hlen : len ≤ 4096) (hao : 0 < k → ao = some ⟨b, off, none⟩) (f g m : Nat → Int) (J : Nat → World → Prop)
    (hJ : ∀ j W, J j W → Boxed W bK 3 (.int .i64 k) ∧ Boxed W bI 22 (.slice ao len cap) ∧ (∀ i, i < k → W.cell? ⟨b, off + i * 3, none⟩ = some (.int .i64 (f i)) ∧ W.cell? ⟨b, off + i * 3 + 1, none⟩ = some (.int .i64 (g i)) ∧ W.cell? ⟨b, off + i * 3 + 2, none⟩ = some (.int .u8 (m i))))
    (hY : ∀ j W, J j W → j < k → YieldAt Fence.wide (n - 1) Yba.prog l #[.agg #[], .agg #[.int .i64 (f j), .int .i64 (g j), .int .u8 (m j)]] W fun e W' => e = .returned (.bool true) ∧ J (j + 1) W')
    (W : World) (hC : Boxed W bC 27 (.pointer (some ⟨C, 0, none⟩))) (hC0 : Boxed W C 3 (.int .i64 0)) (h0 : J 0 (W.setCell ⟨C, 0, none⟩ (.int .i64 1)).drew) :
    CallsIn Fence.wide n Yba.prog 8 #[.func (.yield l) #[] #[], .pointer (some ⟨bC, 0, none⟩), .pointer (some ⟨bK, 0, none⟩), .pointer (some ⟨bI, 0, none⟩), .pointer (some ⟨bR, 0, none⟩)] W fun e W' => (∃ v, e = .returned v) ∧ J k W' := by
  have c1 := hC.cell
  have c2 := hC0.cell
  have c3 := hC0.frozen
  refine callsIn_of_wp Yba.func8 rfl trivial ?_ rfl
  simp only [Yba.ntmps8, List.size_toArray, List.length_cons, List.length_nil, Nat.reduceAdd, Nat.reduceSub, Array.replicate_succ, Array.replicate_zero, List.push_toArray, List.append_toArray, List.nil_append, List.cons_append]
  gi_wp2
  gi_region
  gi_wp2
  gi_loopw [6] (fun i wr => ∃ j : Nat, j ≤ k ∧ i = .int .i64 j ∧ J j wr) (fun i _ => k - (intOf i).toNat)
  case atStart => exact ⟨0, Nat.zero_le _, rfl, h0⟩
  case round =>
    obtain ⟨j, hj, rfl, hjs⟩ := hrel
    obtain ⟨d1, d2, d3⟩ := hJ j wr hjs
    have d1' := d1.cell
    have d2' := d2.cell
    by_cases hlt : j < k
    · obtain rfl := hao (by omega)
      obtain ⟨e1, e2, e3⟩ := d3 j hlt
      obtain ⟨fn, tmps, assign, body, hy, hR⟩ := hY j wr hjs hlt
      clear d3
      gi_wp2
      refine hR.mono ?_
      rintro e W3 ⟨rfl, hJ3⟩
      gi_wp2
      go_roundw
      case rel => exact ⟨j + 1, by omega, by go_num, hJ3⟩
      case measure => simp [intOf]; omega
    · gi_wp2
      go_end0
      have e : j = k := by omega
      subst e
      exact ⟨⟨_, rfl⟩, hjs⟩
end Go.Proofs.Ybulkbhru
