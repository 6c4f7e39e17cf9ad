/-
  'collect(zzs2932cseq(in, k, ..))' and 'zzs2932csame' as the laws call them. Own work on this program.
-/
import Derived.Test.YbulkbhruSpans
import Derived.Test.YbulkbhruSame
namespace Go.Proofs.Ybulkbhru
open Go.RowKit

/-- The world in which 'collect' is called. -/
def W6 (w : World) (ao : Option Addr) (len cap : Nat) (k : Int) : World :=
  (((((w.alloc (.cells #[.int .i64 0] 3)).alloc (.cells #[.bool false] 4)).alloc (.cells #[.slice ao len cap] 22)).alloc (.cells #[.int .i64 k] 3)).alloc (.cells #[.pointer (some ⟨w.heap.size, 0, none⟩)] 27)).alloc (.cells #[.pointer (some ⟨w.heap.size + 1, 0, none⟩)] 28)

theorem collect_any (w : World) (ao : Option Addr) (len cap b off : Nat) (f g m : Nat → Int) (h : IsSpans w ao len b off f g m) (hlen : len ≤ 4096) (k : Nat) (hk : k ≤ len) :
    Calls Yba.prog 5 #[.func (.func 8) #[] #[.pointer (some ⟨w.heap.size + 1 + 1 + 2, 0, none⟩), .pointer (some ⟨w.heap.size + 1 + 1 + 1, 0, none⟩), .pointer (some ⟨w.heap.size + 1 + 1, 0, none⟩), .pointer (some ⟨w.heap.size + 1 + 1 + 3, 0, none⟩)]] (W6 w ao len cap k) fun e W' =>
      ∃ v, e = .returned v ∧ W'.ownsRow w.heap.size 37 3 v k (Cells3 f g m k) ∧ (v = .slice none 0 0 ↔ k = 0) ∧ W'.cell? ⟨w.heap.size, 0, none⟩ = some (.int .i64 1) ∧ W'.cell? ⟨w.heap.size + 1, 0, none⟩ = some (.bool false) ∧ Below w.heap.size w W' := by
  have b0 : Boxed (W6 w ao len cap k) w.heap.size 3 (.int .i64 0) := (((((Boxed.new w 3 (.int .i64 0)).alloc _).alloc _).alloc _).alloc _).alloc _
  have b1 : Boxed (W6 w ao len cap k) (w.heap.size + 1) 4 (.bool false) := by
    have h := Boxed.new (w.alloc (.cells #[.int .i64 0] 3)) 4 (.bool false)
    simp only [World.size_alloc] at h
    exact (((h.alloc _).alloc _).alloc _).alloc _
  have b2 : Boxed (W6 w ao len cap k) (w.heap.size + 1 + 1) 22 (.slice ao len cap) := by
    have h := Boxed.new ((w.alloc (.cells #[.int .i64 0] 3)).alloc (.cells #[.bool false] 4)) 22 (.slice ao len cap)
    simp only [World.size_alloc] at h
    exact ((h.alloc _).alloc _).alloc _
  have b3 : Boxed (W6 w ao len cap k) (w.heap.size + 1 + 1 + 1) 3 (.int .i64 k) := by
    have h := Boxed.new (((w.alloc (.cells #[.int .i64 0] 3)).alloc (.cells #[.bool false] 4)).alloc (.cells #[.slice ao len cap] 22)) 3 (.int .i64 k)
    simp only [World.size_alloc] at h
    exact (h.alloc _).alloc _
  have b4 : Boxed (W6 w ao len cap k) (w.heap.size + 1 + 1 + 2) 27 (.pointer (some ⟨w.heap.size, 0, none⟩)) := by
    have h := Boxed.new ((((w.alloc (.cells #[.int .i64 0] 3)).alloc (.cells #[.bool false] 4)).alloc (.cells #[.slice ao len cap] 22)).alloc (.cells #[.int .i64 k] 3)) 27 (.pointer (some ⟨w.heap.size, 0, none⟩))
    simp only [World.size_alloc] at h
    exact h.alloc _
  have hsz : (W6 w ao len cap k).heap.size = w.heap.size + 6 := by simp [W6]
  have low : Below w.heap.size w (W6 w ao len cap k) :=
    ((((((Below.refl _ w).alloc (Nat.le_refl _) _).alloc (by simp) _).alloc (by simp; omega) _).alloc (by simp; omega) _).alloc (by simp; omega) _).alloc (by simp; omega) _
  refine callsIn_wide.1 ((collect_in 4 w.heap.size _ _ _ _ w.heap.size (w.heap.size + 1) (by omega) k ao b off len cap hk hlen (fun h0 => (h.at' (by omega)).1) (fun h0 => (h.at' (by omega)).2) f g m (W6 w ao len cap k) (by omega) (Nat.le_refl _) ?_ b4 b3 b2 b0 b1 (by omega) (by omega) (by omega)).mono ?_)
  · intro i hi
    have hb := (h.at' (by omega)).2
    rw [low.cell (p := ⟨b, off + i * 3, none⟩) hb, low.cell (p := ⟨b, off + i * 3 + 1, none⟩) hb, low.cell (p := ⟨b, off + i * 3 + 2, none⟩) hb]
    exact h.el i (by omega)
  · rintro e W' ⟨v, rfl, h1, h2, h3, h4, h5⟩
    exact ⟨v, rfl, h1, h2, h3.cell, h4.cell, low.trans h5⟩

theorem same_any (w : World) (ao : Option Addr) (len cap b off : Nat) (f g m : Nat → Int) (h : IsSpans w ao len b off f g m) (hlen : len ≤ 4096) (k : Nat) (hk : k ≤ len) (W : World) (v : Value)
    (hrow : W.ownsRow w.heap.size 37 3 v k (Cells3 f g m k)) (hnil : v = .slice none 0 0 ↔ k = 0) (low : Below w.heap.size w W) :
    Calls Yba.prog 7 #[v, .slice ao len cap, .int .i64 k] W fun e w' => e = .returned (.bool true) ∧ Below w.heap.size w w' := by
  cases k with
  | zero =>
    obtain rfl := hnil.2 rfl
    refine (same_nil ao len cap W).mono ?_
    rintro e w' ⟨rfl, rfl⟩
    exact ⟨rfl, low⟩
  | succ k =>
    obtain ⟨gb, gc, rfl⟩ := ownsRow_succ hrow
    obtain ⟨rfl, hb⟩ := h.at' (by omega)
    refine (same_some (k + 1) (by omega) b off len cap gb gc hk hlen f g m W ?_ ?_).mono ?_
    · intro i hi
      rw [low.cell (p := ⟨b, off + i * 3, none⟩) hb, low.cell (p := ⟨b, off + i * 3 + 1, none⟩) hb, low.cell (p := ⟨b, off + i * 3 + 2, none⟩) hb]
      exact h.el i (by omega)
    · intro i hi
      obtain ⟨c0, c1, c2⟩ := cells3_at f g m (k + 1) i hi
      exact ⟨(hrow.cellAt _ (by omega)).trans c0, (hrow.cellAt _ (by omega)).trans c1, (hrow.cellAt _ (by omega)).trans c2⟩
    · rintro e w' ⟨rfl, nq, rfl⟩
      exact ⟨rfl, below_drewN low nq⟩
end Go.Proofs.Ybulkbhru
