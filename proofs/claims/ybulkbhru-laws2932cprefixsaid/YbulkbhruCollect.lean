/-
  'collect' over the laws' sequence, by a contract. Own work on this program.
-/
import Derived.Test.YbulkbhruSeq
import Derived.Test.YbulkbhruRange
namespace Go.Proofs.Ybulkbhru
open Go.RowKit Go.Shelf
attribute [local go_sem] Oper.semAt_some

theorem Yba.info37 : (Yba.prog.info? 37).map (fun i => (i.zero, i.size, i.bytes)) = some (some (.agg #[.int .i64 0, .int .i64 0, .int .u8 0]), 3, 24) := by kernel_rfl

/-- The cells of the first j elements. -/
def Cells3 (f g m : Nat → Int) (j : Nat) : List Value := (List.range j).flatMap fun i => [.int .i64 (f i), .int .i64 (g i), .int .u8 (m i)]

theorem cells3_succ (f g m : Nat → Int) (j : Nat) : Cells3 f g m (j + 1) = Cells3 f g m j ++ [.int .i64 (f j), .int .i64 (g j), .int .u8 (m j)] := by
  simp [Cells3, List.range_succ, List.flatMap_append]

theorem notRow {W : World} {base : Nat} {v : Value} {k : Nat} {xs : List Value} (hr : W.ownsRow base 37 3 v k xs) {B : Nat} {o : Obj} (hB : W.heap[B]? = some o) (hne : ∀ cur fr, o ≠ .cells cur 37 fr) : some B ≠ v.ownBlock := by
  rcases hr.2 with ⟨rfl, _⟩ | ⟨g, cap, cur, rfl, _, hgb, _⟩
  · simp [Value.ownBlock]
  · intro e'
    obtain rfl : B = g := by simpa [Value.ownBlock] using e'
    rw [hB] at hgb
    exact hne _ _ (Option.some.inj hgb)

/-- What stands between two rounds. -/
structure Mid (w : World) (n₀ Bf bI bK C R D l k len cap : Nat) (ao : Option Addr) (f g m : Nat → Int) (L : Obj) (j : Nat) (W : World) : Prop where
  row : ∃ v, Boxed W Bf 22 v ∧ W.ownsRow n₀ 37 3 v j (Cells3 f g m j) ∧ (v = .slice none 0 0 ↔ j = 0)
  bI : Boxed W bI 22 (.slice ao len cap)
  bK : Boxed W bK 3 (.int .i64 k)
  bC : Boxed W C 3 (.int .i64 1)
  bR : Boxed W R 4 (.bool false)
  bD : W.heap[D]? = some (.deferred (some []))
  bL : W.heap[l]? = some L
  low : Below n₀ w W

section
variable {w : World} {n₀ Bf bI bK C R D l k len cap : Nat} {ao : Option Addr} {f g m : Nat → Int} {L : Obj} {j : Nat} {W : World}

theorem Mid.drew (h : Mid w n₀ Bf bI bK C R D l k len cap ao f g m L j W) : Mid w n₀ Bf bI bK C R D l k len cap ao f g m L j W.drew := by
  obtain ⟨⟨v, r1, r2, r3⟩, h1, h2, h3, h4, h5, h6, h7⟩ := h
  exact ⟨⟨v, r1, r2.drew, r3⟩, h1, h2, h3, h4, h5, h6, h7.drew⟩

theorem Mid.alloc (h : Mid w n₀ Bf bI bK C R D l k len cap ao f g m L j W) (hn : n₀ ≤ W.heap.size) (o : Obj) : Mid w n₀ Bf bI bK C R D l k len cap ao f g m L j (W.alloc o) := by
  obtain ⟨⟨v, r1, r2, r3⟩, h1, h2, h3, h4, h5, h6, h7⟩ := h
  have old : ∀ {b : Nat} {x : Obj}, W.heap[b]? = some x → (W.alloc o).heap[b]? = some x := fun hb => (Below.heap_alloc W o _ (Array.getElem?_eq_some_iff.1 hb).1).trans hb
  exact ⟨⟨v, r1.alloc o, r2.alloc o, r3⟩, h1.alloc o, h2.alloc o, h3.alloc o, h4.alloc o, old h5, old h6, h7.alloc hn o⟩

theorem Mid.put (h : Mid w n₀ Bf bI bK C R D l k len cap ao f g m L j W) (hc : L.isCells = false) (hlD : D ≠ l) (hn : n₀ ≤ l) (L' : Obj) : Mid w n₀ Bf bI bK C R D l k len cap ao f g m L' j (W.putObj l L') := by
  obtain ⟨⟨v, r1, r2, r3⟩, h1, h2, h3, h4, h5, h6, h7⟩ := h
  have box : ∀ {b : Nat} {t : TypeId} {x : Value}, Boxed W b t x → Boxed (W.putObj l L') b t x := by
    intro b t x hb
    have e : b ≠ l := by
      rintro rfl
      rw [show W.heap[b]? = _ from hb] at h6
      obtain rfl := Option.some.inj h6
      cases hc
    exact (World.putObj_heap_other e).trans hb
  exact ⟨⟨v, box r1, ownsRow_putObj r2 L' h6 hc, r3⟩, box h1, box h2, box h3, box h4, (World.putObj_heap_other hlD).trans h5, World.putObj_heap_same (Array.getElem?_eq_some_iff.1 h6).1,
    h7.trans ((Below.refl n₀ W).grown (grownBy_putObj' W l L') (by have := (Array.getElem?_eq_some_iff.1 h6).1; omega) (fun k e => by cases e; omega))⟩

/-- 'found = append(found, s)', behind the store. -/
theorem Mid.appended (h : Mid w n₀ Bf bI bK C R D l k len cap ao f g m L j W) (hL : L.isCells = false) (hn : n₀ ≤ W.heap.size) (hB : n₀ ≤ Bf) (hBI : bI ≠ Bf) {v v' : Value} (hv : Boxed W Bf 22 v) (hrow : W.ownsRow n₀ 37 3 v j (Cells3 f g m j))
    {w1 : World} {tmp : Obj} (hown' : w1.ownsRow n₀ 37 3 v' (j + 1) (Cells3 f g m j ++ [.int .i64 (f j), .int .i64 (g j), .int .u8 (m j)])) (hgrow : (W.alloc tmp).grownBy w1 v.ownBlock) :
    Mid w n₀ Bf bI bK C R D l k len cap ao f g m L (j + 1) (w1.setCell ⟨Bf, 0, none⟩ v') := by
  obtain ⟨hv1, hv2, hr2, hk2, hb2⟩ := hv.appended (by decide) hrow hn hB hown' hgrow
  obtain ⟨_, h1, h2, h3, h4, h5, h6, h7⟩ := h
  have stay : ∀ {b : Nat} {x : Obj}, W.heap[b]? = some x → b ≠ Bf → (∀ cur fr, x ≠ .cells cur 37 fr) → (w1.setCell ⟨Bf, 0, none⟩ v').heap[b]? = some x := by
    intro b x hb hne hx
    have e1 : (W.alloc tmp).heap[b]? = some x := (Below.heap_alloc W tmp _ (Array.getElem?_eq_some_iff.1 hb).1).trans hb
    have e2 : w1.heap[b]? = some x := (hgrow.block b (Array.getElem?_eq_some_iff.1 e1).1 (notRow hrow hb hx)).trans e1
    exact (Below.heap_setCell _ _ _ _ hne).trans e2
  have bf : ∀ {b : Nat} {t : TypeId} {x : Value}, Boxed W b t x → t ≠ 22 → b ≠ Bf := by
    rintro b t x hb ht rfl
    have := Option.some.inj ((show W.heap[b]? = _ from hb).symm.trans hv)
    simp at this
    exact ht this.2
  have ne : ∀ {b : Nat}, (∃ x : Obj, W.heap[b]? = some x ∧ x.isCells = false) → b ≠ Bf := by
    rintro b ⟨x, hx, hc⟩ rfl
    rw [show W.heap[b]? = _ from hv] at hx
    obtain rfl := Option.some.inj hx
    cases hc
  refine ⟨⟨v', hv2, by rw [cells3_succ]; exact hr2, ?_⟩, stay h1 hBI (by simp), stay h2 (bf h2 (by decide)) (by simp), stay h3 (bf h3 (by decide)) (by simp), stay h4 (bf h4 (by decide)) (by simp), stay h5 (ne ⟨_, h5, rfl⟩) (by simp), stay h6 (ne ⟨_, h6, hL⟩) (by rintro cur fr rfl; cases hL), h7.trans hb2⟩
  obtain ⟨g', cap', rfl⟩ := ownsRow_succ hown'
  simp
end

theorem three_new (W : World) (x y z : Value) (t : TypeId) : ∀ j u, [x, y, z][j]? = some u → (W.alloc (.cells #[x, y, z] t)).cell? ((⟨W.heap.size, 0, none⟩ : Addr).add j) = some u := by
  intro j u hj
  match j, hj with
  | 0, hj => simp at hj; subst hj; simp [Addr.add]
  | 1, hj => simp at hj; subst hj; simp [Addr.add]
  | 2, hj => simp at hj; subst hj; simp [Addr.add]

set_option maxRecDepth 100000 in
set_option maxHeartbeats 2000000 in
/-- 'collect' over the sequence: a slice of its own that holds the first k elements, nil where there is none; the sequence was run once and never refused. -/
theorem collect_in (n n₀ bC bK bI bR C R : Nat) (hn : 4 ≤ n) (k : Nat) (ao : Option Addr) (b off len cap : Nat) (hk : k ≤ len) (hlen : len ≤ 4096) (hao : 0 < k → ao = some ⟨b, off, none⟩) (hb : 0 < k → b < n₀) (f g m : Nat → Int) (w : World) (hn₀ : n₀ ≤ w.heap.size) (hC₀ : n₀ ≤ C)
    (hel : ∀ i, i < k → w.cell? ⟨b, off + i * 3, none⟩ = some (.int .i64 (f i)) ∧ w.cell? ⟨b, off + i * 3 + 1, none⟩ = some (.int .i64 (g i)) ∧ w.cell? ⟨b, off + i * 3 + 2, none⟩ = some (.int .u8 (m i)))
    (hbC : Boxed w bC 27 (.pointer (some ⟨C, 0, none⟩))) (hbK : Boxed w bK 3 (.int .i64 k)) (hbI : Boxed w bI 22 (.slice ao len cap)) (hC : Boxed w C 3 (.int .i64 0)) (hR : Boxed w R 4 (.bool false)) (hne : bK ≠ C) (hIC : bI ≠ C) (hRC : R ≠ C) :
    CallsIn Fence.wide n Yba.prog 5 #[.func (.func 8) #[] #[.pointer (some ⟨bC, 0, none⟩), .pointer (some ⟨bK, 0, none⟩), .pointer (some ⟨bI, 0, none⟩), .pointer (some ⟨bR, 0, none⟩)]] w fun e W' =>
      ∃ v, e = .returned v ∧ W'.ownsRow n₀ 37 3 v k (Cells3 f g m k) ∧ (v = .slice none 0 0 ↔ k = 0) ∧ Boxed W' C 3 (.int .i64 1) ∧ Boxed W' R 4 (.bool false) ∧ Below n₀ w W' := by
  obtain ⟨i0, hi, hz0, hz1, hz2⟩ := info_parts Yba.info37
  refine callsIn_of_wp_marks Yba.func5 rfl trivial ?_ rfl
  simp only [Yba.ntmps5, List.size_toArray, List.length_cons, List.length_nil, Nat.reduceAdd, Nat.reduceSub, Array.replicate_succ, Array.replicate_zero, List.push_toArray, List.append_toArray, List.nil_append, List.cons_append]
  gi_wp2
  refine range_law (by omega) rfl (enters_of Yba.func8 (by kernel_rfl) rfl) ?_
  intro r r1 r2 r3 r4 r5 r6
  simp only [World.size_alloc]
  have hBf := Boxed.new w 22 (.slice none 0 0)
  obtain ⟨W1, hW1⟩ : ∃ W1, ((w.alloc (Obj.cells #[Value.slice none 0 0] 22)).alloc (.deferred (some []))).alloc (.loop r) = W1 := ⟨_, rfl⟩
  rw [hW1]
  have hD1 : W1.heap[w.heap.size + 1]? = some (.deferred (some [])) := by
    rw [← hW1, Below.heap_alloc _ _ _ (by simp)]
    have := World.alloc_heap_new (w.alloc (Obj.cells #[Value.slice none 0 0] 22)) (.deferred (some []))
    rwa [World.size_alloc] at this
  have hL1 : W1.heap[w.heap.size + 2]? = some (.loop r) := by
    have := World.alloc_heap_new ((w.alloc (Obj.cells #[Value.slice none 0 0] 22)).alloc (.deferred (some []))) (.loop r)
    rw [World.size_alloc, World.size_alloc] at this
    rw [← hW1]; exact this
  have old : ∀ {B : Nat} {t : TypeId} {v : Value}, Boxed w B t v → Boxed W1 B t v := fun hB => hW1 ▸ ((hB.alloc _).alloc _).alloc _
  have hb1 : Below n₀ w W1 := hW1 ▸ (((Below.refl _ w).alloc hn₀ _).alloc (by simp; omega) _).alloc (by simp; omega) _
  refine (seq1_in (n - 1) (w.heap.size + 2) bC bK bI bR C (by omega) k ao b off len cap hk hlen hao f g m (Mid w n₀ w.heap.size bI bK C R (w.heap.size + 1) (w.heap.size + 2) k len cap ao f g m (.loop r)) ?_ ?_ W1 (old hbC) (old hC) ?_).mono ?_
  · intro j W hM
    exact ⟨hM.bK, hM.bI, fun i hi => by
      have := hel i hi
      have hbn := hb (by omega)
      rw [hM.low.cell (p := ⟨b, off + i * 3, none⟩) hbn, hM.low.cell (p := ⟨b, off + i * 3 + 1, none⟩) hbn, hM.low.cell (p := ⟨b, off + i * 3 + 2, none⟩) hbn]
      exact this⟩
  · intro j W hM hj
    refine round_law hM.bL r1 r2 r3 r4 r5 r6 rfl ?_
    intro rb
    gi_wp2
    have hsz : w.heap.size + 2 < W.heap.size := (Array.getElem?_eq_some_iff.1 hM.bL).1
    have hM1 := hM.alloc (by omega) (.cells #[Value.int IntKind.i64 (f j), Value.int IntKind.i64 (g j), Value.int IntKind.u8 (m j)] 37)
    refine ⟨hM1.bL, ?_⟩
    have hM2 := hM1.put rfl (by omega) (by omega) (.loop rb)
    have hs1 : ((W.alloc (.cells #[Value.int IntKind.i64 (f j), Value.int IntKind.i64 (g j), Value.int IntKind.u8 (m j)] 37)).putObj (w.heap.size + 2) (.loop rb)).cell? ⟨W.heap.size, 0, none⟩ = some (.int .i64 (f j)) := (World.cell?_of_block (World.putObj_heap_other (by show W.heap.size ≠ _; omega))).trans (by rw [World.cell?_alloc_at _ _ _ _ rfl]; rfl)
    have hs2 : ((W.alloc (.cells #[Value.int IntKind.i64 (f j), Value.int IntKind.i64 (g j), Value.int IntKind.u8 (m j)] 37)).putObj (w.heap.size + 2) (.loop rb)).cell? ⟨W.heap.size, 1, none⟩ = some (.int .i64 (g j)) := (World.cell?_of_block (World.putObj_heap_other (by show W.heap.size ≠ _; omega))).trans (by rw [World.cell?_alloc_at _ _ _ _ rfl]; rfl)
    have hs3 : ((W.alloc (.cells #[Value.int IntKind.i64 (f j), Value.int IntKind.i64 (g j), Value.int IntKind.u8 (m j)] 37)).putObj (w.heap.size + 2) (.loop rb)).cell? ⟨W.heap.size, 2, none⟩ = some (.int .u8 (m j)) := (World.cell?_of_block (World.putObj_heap_other (by show W.heap.size ≠ _; omega))).trans (by rw [World.cell?_alloc_at _ _ _ _ rfl]; rfl)
    generalize (W.alloc (.cells #[Value.int IntKind.i64 (f j), Value.int IntKind.i64 (g j), Value.int IntKind.u8 (m j)] 37)).putObj (w.heap.size + 2) (.loop rb) = W2 at *
    obtain ⟨v, hv, hrow, hnil⟩ := hM2.row
    have hc := hv.cell
    have hsz2 := hM2.low.size
    have hIf : bI ≠ w.heap.size := by have := hbI.lt; omega
    clear hao hb hel hbC hbK hbI hC hR hBf hW1 hD1 hL1 hb1 hM hM1 r3 r5 r6
    gi_wp2_with (gi_at_builtin; refine wpListIn_append_own _ rfl _ _ 22 rfl n₀ 37 i0 (.agg #[.int .i64 0, .int .i64 0, .int .u8 0]) 3 24 Yba.underlying22 hi hz0 hz1 hz2 rfl (by decide) _ _ _ rfl (hrow.alloc _) ⟨W2.heap.size, 0, none⟩ 1 1 [.int .i64 (f j), .int .i64 (g j), .int .u8 (m j)] rfl rfl (three_new _ _ _ _ _) (by simp [Value.oneCell']) (by unfold maxLen; omega) (by omega) (by simp; omega) ?_; intro v' w1 hown' hgrow _; have hM3 := hM2.appended rfl (by omega) (by omega) hIf hv hrow hown' hgrow; obtain ⟨g', cap', rfl⟩ := ownsRow_succ hown'; have hv1 := (hv.appended (by decide) hrow (by omega) (by omega) hown' hgrow).1; have hc1 := hv1.cell; have hf1 := hv1.frozen)
    exact ⟨hM3.bL, hM3.put rfl (by omega) (by omega) (.loop r)⟩
  · have e0 : (W1.setCell ⟨C, 0, none⟩ (.int .i64 1)).heap.size = W1.heap.size := by simp [World.setCell]
    have box : ∀ {B : Nat} {t : TypeId} {v : Value}, Boxed w B t v → B ≠ C → Boxed (W1.setCell ⟨C, 0, none⟩ (.int .i64 1)).drew B t v := fun hB hne => (Below.heap_setCell _ _ _ _ hne).trans (old hB)
    have hCw := hC.lt
    refine ⟨⟨.slice none 0 0, ?_, World.ownsRow_nil _ _ _ _, by simp⟩, box hbI hIC, box hbK hne, (old hC).set _, box hR hRC, (Below.heap_setCell _ _ _ _ (by show _ ≠ C; omega)).trans hD1, (Below.heap_setCell _ _ _ _ (by show _ ≠ C; omega)).trans hL1, (hb1.setCell (p := ⟨C, 0, none⟩) hC₀ _).drew⟩
    exact (Below.heap_setCell _ _ _ _ (by show _ ≠ C; omega)).trans (hW1 ▸ (hBf.alloc _).alloc _)
  · rintro e W' ⟨hv, hM⟩
    refine ⟨hv, r, hM.bL, by rw [r1]; simp, r2, ?_⟩
    have hM2 := hM.put rfl (by omega) (by omega) (.loop { r with state := .exhausted })
    clear hM
    generalize W'.putObj (w.heap.size + 2) (.loop { r with state := .exhausted }) = W2 at *
    obtain ⟨v, hv, hrow, hnil⟩ := hM2.row
    have hc := hv.cell
    clear r3 r5 r6
    gi_wp2
    refine ⟨by simp, .inl ⟨_, _, rfl, run_takeDeferred hM2.bD, ?_⟩⟩
    have bx : ∀ {B : Nat} {t : TypeId} {x : Value}, Boxed W2 B t x → Boxed (W2.putObj (w.heap.size + 1) (.deferred none)) B t x := by
      intro B t x hB
      have e : B ≠ w.heap.size + 1 := by
        rintro rfl
        have := Option.some.inj ((show W2.heap[w.heap.size + 1]? = _ from hB).symm.trans hM2.bD)
        cases this
      exact (World.putObj_heap_other e).trans hB
    exact ⟨_, results_tmp rfl _ _ _, v, rfl, ownsRow_putObj hrow _ hM2.bD rfl, hnil, bx hM2.bC, bx hM2.bR, hM2.low.trans ((Below.refl n₀ W2).grown (grownBy_putObj' W2 _ _) (by have := hM2.low.size; omega) (fun k e => by cases e; omega))⟩
end Go.Proofs.Ybulkbhru
