/-
  slices.Index at this program's slice of requests, by a contract. Own work on this program.
-/
import Derived.Test.YbulkbhqsDoorRows
import Derived.WalkKit
import Derived.WalkSmall
import Derived.Deep.Draws
import Derived.OwnWalk
import Derived.Lib.Builder
import Derived.WalkSpells
import Derived.LaidEqlPtr
import Derived.Deep.DeepAppendRoom
import Derived.Deep.RegionWith
import Derived.Deep.RegionLaw
import Derived.Lib.SliceRun
import Derived.BigFrame
namespace Go.Proofs.YbulkbhqsDoor
open Go.RowKit

/-- Pointers to blocks. -/
def ptrs (l : List Nat) : List Value := l.map fun b => .pointer (some ⟨b, 0, none⟩)
theorem ptrs_at (l : List Nat) (i : Nat) (h : i < l.length) : (ptrs l)[i]? = some (.pointer (some ⟨l[i], 0, none⟩)) := by simp [ptrs, h]

theorem Ybad.info72 : (Ybad.prog.info? 72).map (fun i => (i.zero.isSome, decide (i.size = 0))) = some (true, false) := by kernel_rfl
theorem Ybad.info29 : (Ybad.prog.info? 29).map (fun i => (i.zero, i.size, i.bytes)) = some (some (.pointer none), 1, 8) := by kernel_rfl

theorem eql_same (a : Addr) (w : World) : (binOp .eql 29 (.pointer (some a)) (.pointer (some a))).run Ybad.prog w = .ok (.bool true) w := by
  obtain ⟨j, hj, _⟩ := Option.map_eq_some_iff.1 Ybad.info72
  exact run_eql_ptr_same w a Ybad.underlying29 hj

theorem eql_other {a b : Nat} {w : World} (hne : a ≠ b) (ha : ∃ c, w.heap[a]? = some (.cells c 72 (0, 0))) (hb : ∃ c, w.heap[b]? = some (.cells c 72 (0, 0))) :
    (binOp .eql 29 (.pointer (some ⟨a, 0, none⟩)) (.pointer (some ⟨b, 0, none⟩))).run Ybad.prog w = .ok (.bool false) w := by
  obtain ⟨j, hj, hs⟩ := Option.map_eq_some_iff.1 Ybad.info72
  obtain ⟨ca, ha⟩ := ha
  obtain ⟨cb, hb⟩ := hb
  simp at hs
  exact run_eql_ptr_other w Ybad.underlying29 hj hs.2 (by simp) ha hb

theorem owns_succ {W : World} {base : Nat} {e : TypeId} {size : Nat} {v : Value} {k : Nat} {xs : List Value} (h : W.ownsRow base e size v k xs) (hk : 0 < k) : ∃ g cap, v = .slice (some ⟨g, 0, none⟩) k cap := by
  rcases h.2 with ⟨_, h0⟩ | ⟨g, cap, _, rfl, _⟩
  · omega
  · exact ⟨g, cap, rfl⟩

/-- What lay outside S lies as it lay. -/
structure Kept (S : List Nat) (W W' : World) : Prop where
  os : W'.os = W.os
  tape : W'.tape = W.tape
  output : W'.output = W.output
  size : W.heap.size ≤ W'.heap.size
  blk : ∀ b, b < W.heap.size → b ∉ S → W'.heap[b]? = W.heap[b]?

theorem Kept.refl (S : List Nat) (W : World) : Kept S W W := ⟨rfl, rfl, rfl, Nat.le_refl _, fun _ _ _ => rfl⟩
theorem Kept.trans {S : List Nat} {A B C : World} (h : Kept S A B) (k : Kept S B C) : Kept S A C :=
  ⟨k.os.trans h.os, k.tape.trans h.tape, k.output.trans h.output, Nat.le_trans h.size k.size, fun b hb hs => (k.blk b (Nat.lt_of_lt_of_le hb h.size) hs).trans (h.blk b hb hs)⟩
theorem Kept.mono {S S' : List Nat} {A B : World} (h : Kept S A B) (hs : ∀ x ∈ S, x ∈ S' ∨ A.heap.size ≤ x) : Kept S' A B :=
  ⟨h.os, h.tape, h.output, h.size, fun b hb hn => h.blk b hb (fun m => (hs b m).elim hn (fun l => by omega))⟩
theorem Kept.drew {S : List Nat} {A B : World} (h : Kept S A B) : Kept S A B.drew := ⟨h.os, h.tape, h.output, h.size, h.blk⟩
theorem Kept.drewN {S : List Nat} {A B : World} (h : Kept S A B) (n : Nat) : Kept S A (B.drewN n) := ⟨h.os, h.tape, h.output, h.size, h.blk⟩
theorem Kept.set (S : List Nat) (W : World) (b o : Nat) (hb : b ∈ S) (v : Value) : Kept S W (W.setCell ⟨b, o, none⟩ v) :=
  ⟨rfl, rfl, rfl, by simp [World.setCell], fun b' _ hn => Below.heap_setCell _ _ _ _ (fun e => hn (by rw [e]; exact hb))⟩
theorem Kept.alloc (S : List Nat) (W : World) (o : Obj) : Kept S W (W.alloc o) := ⟨rfl, rfl, rfl, by simp, fun b hb _ => Below.heap_alloc _ _ _ hb⟩
theorem Kept.drewBack {S : List Nat} {A B : World} (h : Kept S A.drew B) : Kept S A B := ⟨h.os, h.tape, h.output, h.size, h.blk⟩
theorem owns_of_block {w w' : World} {base : Nat} {e : TypeId} {size : Nat} {v : Value} {n : Nat} {xs : List Value} (h : w.ownsRow base e size v n xs) (hb : ∀ g, v.ownBlock = some g → w'.heap[g]? = w.heap[g]?) : w'.ownsRow base e size v n xs := by
  refine ⟨h.1, ?_⟩
  rcases h.2 with hn | ⟨g, cap, cur, rfl, h1, h2, rest⟩
  · exact .inl hn
  · exact .inr ⟨g, cap, cur, rfl, h1, (hb g rfl).trans h2, rest⟩

theorem cells_ne {W : World} {a b : Nat} {ca cb : Array Value} {ea eb : TypeId} {fa fb : Nat × Nat} (ha : W.heap[a]? = some (.cells ca ea fa)) (hb : W.heap[b]? = some (.cells cb eb fb)) (h : ea ≠ eb) : a ≠ b := by
  rintro rfl
  rw [ha] at hb
  simp at hb
  exact h hb.2.1

theorem row_blk {W : World} {base : Nat} {e : TypeId} {size : Nat} {v : Value} {n : Nat} {xs : List Value} (h : W.ownsRow base e size v n xs) {g : Nat} (hg : v.ownBlock = some g) : ∃ c, W.heap[g]? = some (.cells c e (0, 0)) := by
  rcases h.2 with ⟨rfl, _⟩ | ⟨g', cap, cur, rfl, _, h2, _⟩
  · simp [Value.ownBlock] at hg
  · obtain rfl : g' = g := by simpa [Value.ownBlock] using hg
    exact ⟨cur, h2⟩

set_option maxRecDepth 100000 in
set_option maxHeartbeats 1000000 in
theorem index_any (l : List Nat) (base : Nat) (v : Value) (r i : Nat) (W : World) (hm : l.length ≤ 1024) (h : W.ownsRow base 29 1 v l.length (ptrs l)) (hi : l[i]? = some r) (hf : ∀ k, k < i → l[k]? ≠ some r) (hb : ∀ x ∈ l, ∃ c, W.heap[x]? = some (.cells c 72 (0, 0))) :
    Calls Ybad.prog 15 #[v, .pointer (some ⟨r, 0, none⟩)] W fun e W' => e = .returned (.int .i64 i) ∧ W' = W := by
  obtain ⟨hil, hir⟩ := List.getElem?_eq_some_iff.1 hi
  obtain ⟨g, cap, rfl⟩ := owns_succ h (by omega)
  have hrb := hb r (List.mem_of_getElem? hi)
  have HH := (show Hid _ from And.intro h (And.intro hi (And.intro hf hb)))
  clear h hi hf hb hir
  go_enter Ybad.func15, Ybad.ntmps15
  go_wp2
  go_loop [8] (fun c => ∃ j : Nat, j ≤ i ∧ c = .int .i64 j) (fun c => i - (intOf c).toNat)
  case atStart => exact ⟨0, Nat.zero_le _, rfl⟩
  case round =>
    obtain ⟨j, hj, rfl⟩ := hrel
    obtain ⟨h, hi, hf, hb⟩ := HH.out
    have hjl : j < l.length := by omega
    have c1 : W.cell? ⟨g, j, none⟩ = some (.pointer (some ⟨l[j], 0, none⟩)) := (h.cellAt j (by omega)).trans (ptrs_at l j hjl)
    by_cases e : j = i
    · subst e
      have hr : l[j] = r := by simpa [hjl] using hi
      rw [hr] at c1
      have heq := eql_same ⟨r, 0, none⟩
      clear h hi hf hb hr
      go_wp2
      go_ret
      exact ⟨rfl, rfl⟩
    · have hne : r ≠ l[j] := fun k => hf j (by omega) (by simp [hjl, k])
      have heq := eql_other (w := W) hne hrb (hb _ (List.getElem_mem hjl))
      clear h hi hf hb hne
      generalize l[j] = x at c1 heq
      go_wp2
      go_round
      case rel => exact ⟨j + 1, by omega, by go_num⟩
      case measure => simp [intOf]; omega

/-- append within an owned row's room, as one step of a region that draws. -/
theorem step_append_spare {P : Program} {ops : Array Oper} {o : Oper} {a : Act} {w : World} {K : Act → World → Prop} {Q : Exit → Act → World → Prop} {E : Prop} (hgd : o.guard = none) (s x : Operand) (t : TypeId)
    (ho : o.op = .call { callee := .builtin .append, args := #[s, x], argTypes := #[t, t] })
    (base : Nat) (e : TypeId) (i : TypeInfo) (size : Nat) (ht : P.underlying t = some (.slice e)) (hi : P.info? e = some i) (hsize : i.size = size)
    (g n cap : Nat) (xs : List Value) (hs : a.eval s = .slice (some ⟨g, 0, none⟩) n cap) (hown : w.ownsRow base e size (.slice (some ⟨g, 0, none⟩) n cap) n xs)
    (ad : Addr) (m c : Nat) (news : List Value) (hx : a.eval x = .slice (some ad) m c) (hl : news.length = m * size) (hnews : ∀ j u, news[j]? = some u → w.cell? (ad.add j) = some u) (h1 : ∀ u ∈ news, u.oneCell' = true)
    (hroom : n + m ≤ cap)
    (h : ∀ w', w'.ownsRow base e size (.slice (some ⟨g, 0, none⟩) (n + m) cap) (n + m) (xs ++ news) → w.grownBy w' (some g) → K (a.put o.dst (.slice (some ⟨g, 0, none⟩) (n + m) cap)) w') :
    if Region.wanted o (yielded ops a.tmps) = true then Oper.wp P o a w K Q else E := by
  have hw : Region.wanted o (yielded ops a.tmps) = true := by simp [Region.wanted, hgd]
  rw [if_pos hw]
  exact wp_append_own_spare w s x t ho base e i size ht hi hsize g n cap xs hs hown ad m c news hx hl hnews h1 hroom h

theorem zero29 (w : World) : (zeroValue 29).run Ybad.prog w = .ok (.pointer none) w := by kernel_rfl

theorem owns_take {W : World} {base g n cap i : Nat} {l : List Nat} (h : W.ownsRow base 29 1 (.slice (some ⟨g, 0, none⟩) n cap) n (ptrs l)) (hl : l.length = n) (hi : i ≤ n) : W.ownsRow base 29 1 (.slice (some ⟨g, 0, none⟩) i cap) i (ptrs (l.take i)) := by
  rcases h.2 with ⟨h0, _⟩ | ⟨g', cap', cur, hv, hg, hh, hn, hcap, hsz, htake⟩
  · cases h0
  · cases hv
    refine ⟨by simp [ptrs]; omega, .inr ⟨g, cap, cur, rfl, hg, hh, by omega, hcap, hsz, ?_⟩⟩
    have := congrArg (List.take i) htake
    rw [List.take_take, Nat.mul_one, Nat.min_eq_left hi] at this
    rw [Nat.mul_one, this]
    simp [ptrs, List.map_take]

/-- A store behind the row's length. -/
theorem owns_tail {W : World} {base g n cap o : Nat} {e : TypeId} {xs : List Value} (h : W.ownsRow base e 1 (.slice (some ⟨g, 0, none⟩) n cap) n xs) (ho : n ≤ o) (v : Value) :
    (W.setCell ⟨g, o, none⟩ v).ownsRow base e 1 (.slice (some ⟨g, 0, none⟩) n cap) n xs := by
  refine ⟨h.1, ?_⟩
  rcases h.2 with ⟨h0, _⟩ | ⟨g', cap', cur, hv, hg, hh, hn, hcap, hsz, htake⟩
  · cases h0
  · cases hv
    refine .inr ⟨g, cap, cur.setIfInBounds o v, rfl, hg, ?_, hn, hcap, by simpa using hsz, ?_⟩
    · obtain ⟨hlt, hk⟩ := Array.getElem?_eq_some_iff.1 hh
      show (W.heap.modify g _)[g]? = _
      rw [Array.getElem?_eq_getElem (by rw [Array.size_modify]; exact hlt), Array.getElem_modify_self, hk]
      simp
    · rw [Nat.mul_one] at htake ⊢
      rw [← htake]
      simp [List.take_set, Array.toList_setIfInBounds]
      rw [List.set_eq_of_length_le (by simp; omega)]

theorem owns_cell {W : World} {base g n cap o : Nat} {e : TypeId} {xs : List Value} (h : W.ownsRow base e 1 (.slice (some ⟨g, 0, none⟩) n cap) n xs) (ho : o < cap) : (W.cell? ⟨g, o, none⟩).isSome = true ∧ W.frozen? ⟨g, o, none⟩ = false := by
  rcases h.2 with ⟨h0, _⟩ | ⟨g', cap', cur, hv, hg, hh, hn, hcap, hsz, htake⟩
  · cases h0
  · cases hv
    have : o < cur.size := by rw [hsz, Nat.mul_one]; exact ho
    simp [World.cell?, World.frozen?, hh, this]

set_option maxRecDepth 100000 in
set_option maxHeartbeats 1000000 in
theorem delete_any (l : List Nat) (base g cap i : Nat) (W : World) (hm : l.length ≤ 1024) (h : W.ownsRow base 29 1 (.slice (some ⟨g, 0, none⟩) l.length cap) l.length (ptrs l)) (hi : i < l.length) :
    Calls Ybad.prog 16 #[.slice (some ⟨g, 0, none⟩) l.length cap, .int .i64 i, .int .i64 (i + 1)] W fun e W' => e = .returned (.slice (some ⟨g, 0, none⟩) (l.length - 1) cap) ∧ W'.ownsRow base 29 1 (.slice (some ⟨g, 0, none⟩) (l.length - 1) cap) (l.length - 1) (ptrs (l.eraseIdx i)) ∧ Kept [g] W W' := by
  have hcap : l.length ≤ cap := by
    rcases h.2 with ⟨h0, _⟩ | ⟨g', cap', cur, hv, hg, hh, hn, _⟩
    · cases h0
    · cases hv; exact hn
  have hne : ((i : Int) == (i : Int) + 1) = false := by simp; omega
  have HH := (show Hid _ from h)
  clear h
  obtain ⟨i0, hi0, hz0, hz1, hz2⟩ := info_parts Ybad.info29
  have h1c : ∀ u ∈ ptrs (l.drop (i + 1)), u.oneCell' = true := by
    intro u hu
    simp only [ptrs, List.mem_map] at hu
    obtain ⟨b, _, rfl⟩ := hu
    rfl
  obtain ⟨ad, had, hcells⟩ : ∃ ad : Addr, (if cap = i + 1 then some (⟨g, 0, none⟩ : Addr) else some ⟨g, i + 1, none⟩) = some ad ∧ ∀ j u, (ptrs (l.drop (i + 1)))[j]? = some u → W.cell? (ad.add j) = some u := by
    by_cases hce : cap = i + 1
    · refine ⟨⟨g, 0, none⟩, by rw [if_pos hce], fun j u hj => ?_⟩
      rw [List.drop_eq_nil_of_le (by omega)] at hj
      simp [ptrs] at hj
    · refine ⟨⟨g, i + 1, none⟩, by rw [if_neg hce], fun j u hj => ?_⟩
      have e : (⟨g, i + 1, none⟩ : Addr).add j = ⟨g, i + 1 + j, none⟩ := by simp [Addr.add]
      have hj' : (ptrs l)[i + 1 + j]? = some u := by simpa [ptrs, List.getElem?_drop] using hj
      have hlt : i + 1 + j < l.length := by have := (List.getElem?_eq_some_iff.1 hj').1; simpa [ptrs] using this
      rw [e, World.ownsRow.cellAt (show W.ownsRow base 29 1 _ _ _ from HH.out) _ (by omega)]
      exact hj'
  have hic : i ≤ cap := by omega
  have hic1 : i + 1 ≤ cap := by omega
  have hic2 : 0 ≤ (i : Int) + 1 ∧ (i : Int) + 1 ≤ (l.length : Int) := by omega
  have HC := (show Hid _ from And.intro hcells h1c)
  clear hcells h1c
  go_enter Ybad.func16, Ybad.ntmps16
  go_wp2_with fail
  go_region_law (refine step_append_spare rfl (.tmp 22) (.tmp 25) 27 rfl base 29 i0 1 Ybad.underlying27 hi0 hz1 g i cap (ptrs (l.take i)) (by simp [Act.eval, Act.put]) (owns_take HH.out rfl (by omega)) ad (l.length - (i + 1)) (cap - (i + 1)) (ptrs (l.drop (i + 1))) (by simp [Act.eval, Act.put]) (by simp [ptrs]) HC.out.1 HC.out.2 (by omega) ?_; intro w1 hown hgrow)
  rw [show i + (l.length - (i + 1)) = l.length - 1 by omega] at hown ⊢
  have hcl : ∀ ty c, (Builtin.clear_ #[27] ty #[.slice (some ⟨g, l.length - 1, none⟩) 1 c]).run Ybad.prog w1 = .ok (.tuple #[]) (w1.setCells g (l.length - 1) [.pointer none]) :=
    fun ty c => Lib.run_clear_slice w1 27 29 ty (.pointer none) Ybad.underlying27 zero29 rfl rfl g (l.length - 1) 1 c (by omega) (fun j hj => (owns_cell hown (by omega)).1) (fun j hj => (owns_cell hown (by omega)).2)
  have HO := (show Hid _ from And.intro hown hgrow)
  clear hown hgrow had
  have hk1 : ¬ cap = l.length - 1 := by omega
  have hn1 : l.length - (l.length - 1) = 1 := by omega
  go_wp2_with (simp only [hcl])
  go_ret
  obtain ⟨ho, hg⟩ := HO.out
  refine ⟨rfl, ?_, ?_⟩
  · have := owns_tail ho (Nat.le_refl _) (.pointer none)
    rw [List.eraseIdx_eq_take_drop_succ]
    simpa [ptrs, World.setCells] using this
  · exact (show Kept [g] W w1 from ⟨hg.os, hg.tape, hg.output, hg.size, fun b hb hn => hg.block b hb (fun e => hn (by simpa using e))⟩).trans (Kept.set _ _ _ _ (by simp) _)
end Go.Proofs.YbulkbhqsDoor
