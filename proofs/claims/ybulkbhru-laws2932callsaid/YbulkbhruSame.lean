/-
  'zzs2932csame' by a contract. Own work on this program.
-/
import Derived.Test.YbulkbhruCollect
import Derived.WalkSpells
import Derived.Deep.QuietTactic
import Derived.BigQuiet
import Derived.WalkSmall
namespace Go.Proofs.Ybulkbhru
open Go.RowKit

theorem cells3_length (f g m : Nat → Int) (k : Nat) : (Cells3 f g m k).length = k * 3 := by
  induction k with
  | zero => rfl
  | succ k ih => rw [cells3_succ, List.length_append, ih]; simp; omega

theorem cells3_at (f g m : Nat → Int) (k i : Nat) (h : i < k) : (Cells3 f g m k)[i * 3]? = some (.int .i64 (f i)) ∧ (Cells3 f g m k)[i * 3 + 1]? = some (.int .i64 (g i)) ∧ (Cells3 f g m k)[i * 3 + 2]? = some (.int .u8 (m i)) := by
  induction k with
  | zero => omega
  | succ k ih =>
    rw [cells3_succ]
    have hl := cells3_length f g m k
    by_cases e : i < k
    · obtain ⟨a, b, c⟩ := ih e
      rw [List.getElem?_append_left (by omega), List.getElem?_append_left (by omega), List.getElem?_append_left (by omega)]
      exact ⟨a, b, c⟩
    · obtain rfl : i = k := by omega
      rw [List.getElem?_append_right (by omega), List.getElem?_append_right (by omega), List.getElem?_append_right (by omega), hl]
      simp [show i * 3 - i * 3 = 0 from by omega, show i * 3 + 1 - i * 3 = 1 from by omega, show i * 3 + 2 - i * 3 = 2 from by omega]

set_option maxRecDepth 100000 in
set_option maxHeartbeats 1000000 in
theorem same_nil (ao : Option Addr) (len cap : Nat) (w : World) : Calls Yba.prog 7 #[.slice none 0 0, .slice ao len cap, .int .i64 0] w fun e w' => e = .returned (.bool true) ∧ w' = w := by
  have q22 : ∀ (w : World) (a : Option Addr) (n c : Nat), (binOp .eql 22 (.slice a n c) (.slice none 0 0)).run Yba.prog w = .ok (.bool a.isNone) w := fun w a n c => Lib.run_eql_slice_nil w 22 _ a n c 0 0 Yba.underlying22
  go_enter Yba.func7, Yba.ntmps7
  go_wp2
  go_ret
  exact ⟨rfl, rfl⟩

set_option maxRecDepth 100000 in
set_option maxHeartbeats 1000000 in
theorem same_some (k : Nat) (hk0 : 0 < k) (b off len cap gb gc : Nat) (hk : k ≤ len) (hlen : len ≤ 4096) (f g m : Nat → Int) (w : World)
    (hel : ∀ i, i < k → w.cell? ⟨b, off + i * 3, none⟩ = some (.int .i64 (f i)) ∧ w.cell? ⟨b, off + i * 3 + 1, none⟩ = some (.int .i64 (g i)) ∧ w.cell? ⟨b, off + i * 3 + 2, none⟩ = some (.int .u8 (m i)))
    (hgot : ∀ i, i < k → w.cell? ⟨gb, i * 3, none⟩ = some (.int .i64 (f i)) ∧ w.cell? ⟨gb, i * 3 + 1, none⟩ = some (.int .i64 (g i)) ∧ w.cell? ⟨gb, i * 3 + 2, none⟩ = some (.int .u8 (m i))) :
    Calls Yba.prog 7 #[.slice (some ⟨gb, 0, none⟩) k gc, .slice (some ⟨b, off, none⟩) len cap, .int .i64 k] w fun e w' => e = .returned (.bool true) ∧ ∃ nq, w' = w.drewN nq := by
  go_enter Yba.func7, Yba.ntmps7
  go_wp2
  go_loopw [7] (fun i wr => ∃ j nq : Nat, j ≤ k ∧ i = .int .i64 j ∧ wr = w.drewN nq) (fun i _ => k - (intOf i).toNat)
  case atStart => exact ⟨0, 0, Nat.zero_le _, rfl, rfl⟩
  case round =>
    obtain ⟨j, nq, hj, rfl, rfl⟩ := hrel
    by_cases hlt : j < k
    · obtain ⟨e1, e2, e3⟩ := hel j hlt
      obtain ⟨d1, d2, d3⟩ := hgot j hlt
      clear hel hgot
      go_wp2_with fail
      go_quiet (fail)
      go_wp2
      go_roundw
      case rel => exact ⟨j + 1, _, by omega, by go_num, rfl⟩
      case measure => simp [intOf]; omega
    · go_wp2
      go_ret
      exact ⟨rfl, nq, rfl⟩
end Go.Proofs.Ybulkbhru
