/-
  One round of the law's build loop, by lemmas on worlds. Own work on this program.
-/
import Derived.Test.YbulkbhqsState
namespace Go.Proofs.Ybulkbhqs
open Go.RowKit
set_option linter.unusedVariables false

/-- A run as the law lays it. -/
def runC (T : Nat) (nx kx : ByteArray) (d : Bool) (h : Int) (j : Nat) (p : Int) : Array Value :=
  #[.pointer (some ⟨T, 0, none⟩), .string nx, .int .u8 0, .int .u8 0, .bool d, .string ⟨#[]⟩, .int .i8 0, .int .u64 0, .string kx, .string kx, .slice none 0 0, .int .i64 0, .int .i64 h, .slice none 0 0, .int .i64 j, .int .i64 0,
    .int .i64 0, .slice none 0 0, .int .i64 0, .slice none 0 0, .bool false, .pointer none, .pointer none, .pointer none, .int .u64 p, .string ⟨#[]⟩]

variable {w : World} {xs : Array Value} {j : Nat} {s : Int} {ky nm : Nat → Nat} {hd : Nat → Int} {tb : Nat → Option Nat} {l : Nat → List Nat} {bs : List Nat} {v : Value} {W W' : World}

theorem SlotIs.none_congr {T off i : Nat} {nm' : Nat → Nat} (h : SlotIs W T off nm (fun _ => none) i) : SlotIs W T off nm' (fun _ => none) i := ⟨h.ix, h.rn, h.rq⟩

theorem SlotIs.of_block {T off i : Nat} {nl : Nat → Option Nat} (h : SlotIs W T off nm nl i) (e : W'.heap[T]? = W.heap[T]?) : SlotIs W' T off nm nl i :=
  ⟨(World.cell?_of_block (w := W) (a := ⟨T, _, none⟩) e).trans h.ix, (World.cell?_of_block (w := W) (a := ⟨T, _, none⟩) e).trans h.rn, (World.cell?_of_block (w := W) (a := ⟨T, _, none⟩) e).trans h.rq⟩

/-- All blocks stand. -/
theorem BInv.grow (h : BInv w xs j s ky nm hd tb l bs v W) (hk : ∀ b, b < W.heap.size → W'.heap[b]? = W.heap[b]?) (low : Below w.heap.size W W') : BInv w xs j s ky nm hd tb l bs v W' := by
  have lt : ∀ {b : Nat} {o : Obj}, W.heap[b]? = some o → b < W.heap.size := fun hb => (Array.getElem?_eq_some_iff.1 hb).1
  obtain ⟨cT, hT⟩ := h.st.bT
  have eT := hk _ (lt hT)
  obtain ⟨es, clock, hm, hs⟩ := h.st.map
  refine ⟨h.st.frame (fun b c e hb _ _ => hk b (lt hb)) (hk _ (lt hm)) ⟨cT, eT.trans hT⟩, h.len, (World.cell?_of_block (w := W) (a := ⟨_, 3, none⟩) eT).trans h.t3, owns_of_block h.row (fun g e => ?_), (World.cell?_of_block (w := W) (a := ⟨_, 4, none⟩) eT).trans h.t4, fun i hi => (h.slots i hi).of_block eT,
    (hk _ (lt h.bX)).trans h.bX, (hk _ (lt h.bN)).trans h.bN, (hk _ (lt h.bK)).trans h.bK, h.low.trans low, h.sm0, h.sm1⟩
  obtain ⟨c, hc⟩ := row_blk h.row e
  exact hk g (lt hc)

theorem BInv.congr (h : BInv w xs j s ky nm hd tb l bs v W) {ky' nm' : Nat → Nat} {hd' : Nat → Int} (e1 : ∀ b ∈ bs, ky' b = ky b) (e2 : ∀ b ∈ bs, nm' b = nm b) (e3 : ∀ b ∈ bs, hd' b = hd b) : BInv w xs j s ky' nm' hd' tb l bs v W :=
  ⟨h.st.congr e1 e2 e3, h.len, h.t3, h.row, h.t4, fun i hi => (h.slots i hi).none_congr, h.bX, h.bN, h.bK, h.low, h.sm0, h.sm1⟩

/-- A ghost told of one block more. -/
def at1 {α : Type} (f : Nat → α) (r : Nat) (x : α) : Nat → α := fun b => if b = r then x else f b
theorem at1_same {α : Type} (f : Nat → α) (r : Nat) (x : α) : at1 f r x r = x := by simp [at1]
theorem at1_other {α : Type} (f : Nat → α) {r b : Nat} (x : α) (h : b ≠ r) : at1 f r x b = f b := by simp [at1, h]

theorem BInv.blt (h : BInv w xs j s ky nm hd tb l bs v W) : ∀ b ∈ bs, b < W.heap.size := fun b hb => by
  obtain ⟨c, hc⟩ := (h.st.runs b hb).node.blkc
  exact (Array.getElem?_eq_some_iff.1 hc).1

theorem fresh_mk {X : World} {r T nx kx : Nat} {d : Bool} {hh p : Int} (hr : X.heap[r]? = some (.cells (runC T (nms nx) (ks kx) d hh j p) 63 (0, 0))) (hn : nx < 2) (hk : kx < 4) (h1 : 1 ≤ hh) (h3 : hh ≤ 3) :
    FreshRun (at1 ky r kx) (at1 nm r nx) (at1 hd r hh) T r j X := by
  have c : ∀ o, X.cell? ⟨r, o, none⟩ = (runC T (nms nx) (ks kx) d hh j p)[o]? := fun o => by simp [World.cell?, hr]
  have f : ∀ o, X.frozen? ⟨r, o, none⟩ = false := fun o => by simp [World.frozen?, hr]
  refine ⟨⟨⟨d, c 4⟩, ?_, ?_, ⟨none, c 22⟩, ⟨none, c 23⟩, ⟨p, c 24⟩, ⟨_, c 25⟩, f, ?_, _, hr⟩, ?_, c 0, ?_, ?_, ?_, ?_, c 13, c 14, c 21, c 22, c 23⟩
  · rw [at1_same]; exact c 8
  · rw [at1_same]; exact c 9
  · rw [at1_same]; exact hk
  · rw [at1_same]; exact hn
  · rw [at1_same]; exact c 1
  · rw [at1_same]; exact c 12
  · rw [at1_same]; exact h1
  · rw [at1_same]; exact h3

/-- Behind 'r := &run{..}': the loop's facts, and the new run. -/
theorem BInv.fresh (h : BInv w xs j s ky nm hd tb l bs v W) (D : Obj) {nx kx : Nat} {d : Bool} {hh p : Int} (hn : nx < 2) (hk : kx < 4) (h1 : 1 ≤ hh) (h3 : hh ≤ 3) {X : World} (hX : X = ((W.alloc D).alloc (.cells (runC (w.heap.size + 9) (nms nx) (ks kx) d hh j p) 63)).drew) :
    BInv w xs j s (at1 ky (W.heap.size + 1) kx) (at1 nm (W.heap.size + 1) nx) (at1 hd (W.heap.size + 1) hh) tb l bs v X ∧ FreshRun (at1 ky (W.heap.size + 1) kx) (at1 nm (W.heap.size + 1) nx) (at1 hd (W.heap.size + 1) hh) (w.heap.size + 9) (W.heap.size + 1) j X ∧
      W.heap.size + 1 ∉ bs ∧ w.heap.size ≤ W.heap.size ∧ X.heap.size = W.heap.size + 2 := by
  have hlt := h.blt
  have hsz := h.low.size
  have hnb : W.heap.size + 1 ∉ bs := fun hb => by have := hlt _ hb; omega
  have hXs : X.heap.size = W.heap.size + 2 := by rw [hX]; simp
  have ne : ∀ b ∈ bs, b ≠ W.heap.size + 1 := fun b hb e => hnb (e ▸ hb)
  have hb := (h.congr (ky' := at1 ky (W.heap.size + 1) kx) (nm' := at1 nm (W.heap.size + 1) nx) (hd' := at1 hd (W.heap.size + 1) hh) (fun b hb => at1_other _ _ (ne b hb)) (fun b hb => at1_other _ _ (ne b hb)) (fun b hb => at1_other _ _ (ne b hb))).grow (W' := X)
    (fun b hb => by rw [hX]; exact (Below.heap_alloc _ _ _ (by simp; omega)).trans (Below.heap_alloc _ _ _ hb))
    (by rw [hX]; exact (((Below.refl _ W).alloc hsz _).alloc (by simp; omega) _).drew)
  refine ⟨hb, ?_, hnb, hsz, hXs⟩
  refine fresh_mk (nx := nx) (kx := kx) (d := d) (p := p) ?_ hn hk h1 h3
  rw [hX]
  have := World.alloc_heap_new (W.alloc D) (.cells (runC (w.heap.size + 9) (nms nx) (ks kx) d hh j p) 63)
  rw [World.size_alloc] at this
  exact this

/-- Behind 't.runs = append(t.runs, r)'. -/
theorem BInv.append (h : BInv w xs j s ky nm hd tb l bs v W) {r : Nat} (f : FreshRun ky nm hd (w.heap.size + 9) r j W) (hr : r ∉ bs) (hrB : w.heap.size ≤ r) {w1 : World} {tmp : Obj} {v' : Value} (hown : w1.ownsRow w.heap.size 45 1 v' (bs.length + 1) (ptrs bs ++ [.pointer (some ⟨r, 0, none⟩)])) (hg : (W.alloc tmp).grownBy w1 v.ownBlock) :
    w1.cell? ⟨w.heap.size + 9, 3, none⟩ = some v ∧ w1.frozen? ⟨w.heap.size + 9, 3, none⟩ = false ∧
    (St0 ky nm hd (w.heap.size + 9) (w.heap.size + 8) (w.heap.size + 7) w.heap.size tb l bs (w1.setCell ⟨w.heap.size + 9, 3, none⟩ v') ∧ FreshRun ky nm hd (w.heap.size + 9) r j (w1.setCell ⟨w.heap.size + 9, 3, none⟩ v') ∧
      (w1.setCell ⟨w.heap.size + 9, 3, none⟩ v').cell? ⟨w.heap.size + 9, 3, none⟩ = some v' ∧ (w1.setCell ⟨w.heap.size + 9, 3, none⟩ v').ownsRow w.heap.size 45 1 v' (bs ++ [r]).length (ptrs (bs ++ [r])) ∧
      (w1.setCell ⟨w.heap.size + 9, 3, none⟩ v').cell? ⟨w.heap.size + 9, 4, none⟩ = some (.int .i64 0) ∧ (∀ i, i < 4 → SlotIs (w1.setCell ⟨w.heap.size + 9, 3, none⟩ v') (w.heap.size + 9) 13 nm (fun _ => none) i) ∧
      (∀ (b : Nat) (c : Array Value) (e : TypeId), W.heap[b]? = some (.cells c e (0, 0)) → e ≠ 45 → e ≠ 50 → (w1.setCell ⟨w.heap.size + 9, 3, none⟩ v').heap[b]? = W.heap[b]?) ∧ Below w.heap.size w (w1.setCell ⟨w.heap.size + 9, 3, none⟩ v')) := by
  obtain ⟨cT, hT⟩ := h.st.bT
  have lt : ∀ {b : Nat} {o : Obj}, W.heap[b]? = some o → b < W.heap.size := fun hb => (Array.getElem?_eq_some_iff.1 hb).1
  have k1 : ∀ (b : Nat) (c : Array Value) (e : TypeId), W.heap[b]? = some (.cells c e (0, 0)) → e ≠ 45 → w1.heap[b]? = W.heap[b]? := by
    intro b c e hb he
    have hl := lt hb
    refine (hg.block b (by simp; omega) (fun e' => ?_)).trans (Below.heap_alloc _ _ _ hl)
    obtain ⟨c', hc'⟩ := row_blk h.row e'.symm
    exact cells_ne hb hc' he rfl
  have eT := k1 _ _ _ hT (by decide)
  have tc : ∀ o, w1.cell? ⟨w.heap.size + 9, o, none⟩ = W.cell? ⟨w.heap.size + 9, o, none⟩ := fun o => World.cell?_of_block (w := W) (a := ⟨_, o, none⟩) eT
  have k2 : ∀ (b : Nat) (c : Array Value) (e : TypeId), W.heap[b]? = some (.cells c e (0, 0)) → e ≠ 45 → e ≠ 50 → (w1.setCell ⟨w.heap.size + 9, 3, none⟩ v').heap[b]? = W.heap[b]? :=
    fun b c e hb h1 h2 => (Below.heap_setCell _ _ _ _ (cells_ne hb hT h2)).trans (k1 b c e hb h1)
  have to : ∀ o, o ≠ 3 → (w1.setCell ⟨w.heap.size + 9, 3, none⟩ v').cell? ⟨w.heap.size + 9, o, none⟩ = W.cell? ⟨w.heap.size + 9, o, none⟩ := fun o ho => (World.cell?_setCell_other _ _ _ _ (by simp)).trans (tc o)
  obtain ⟨es, clock, hm, hs⟩ := h.st.map
  have eR : (w1.setCell ⟨w.heap.size + 9, 3, none⟩ v').heap[w.heap.size + 7]? = W.heap[w.heap.size + 7]? := by
    have hl := lt hm
    refine (Below.heap_setCell _ _ _ _ (by simp)).trans ((hg.block _ (by simp; omega) (fun e' => ?_)).trans (Below.heap_alloc _ _ _ hl))
    obtain ⟨c', hc'⟩ := row_blk h.row e'.symm
    rw [hm] at hc'; cases hc'
  refine ⟨(tc 3).trans h.t3, by simp [World.frozen?, eT, hT], h.st.frame k2 eR (setCell_isc w1 ⟨_, 3, none⟩ v' cT 50 (0, 0) (eT.trans hT)), ?_, World.cell?_setCell_same _ _ _ ((tc 3).trans h.t3), ?_, (to 4 (by omega)).trans h.t4, ?_, k2, ?_⟩
  · obtain ⟨cr, hcr⟩ := f.node.blkc
    have e := k2 r cr 63 hcr (by decide) (by decide)
    have rc : ∀ o, (w1.setCell ⟨w.heap.size + 9, 3, none⟩ v').cell? ⟨r, o, none⟩ = W.cell? ⟨r, o, none⟩ := fun o => World.cell?_of_block (w := W) (a := ⟨r, o, none⟩) e
    exact ⟨f.node.of_block e, f.nm2, (rc 0).trans f.c0, (rc 1).trans f.c1, (rc 12).trans f.c12, f.h1, f.h3, (rc 13).trans f.c13, (rc 14).trans f.c14, (rc 21).trans f.c21, (rc 22).trans f.c22, (rc 23).trans f.c23⟩
  · have e : ptrs (bs ++ [r]) = ptrs bs ++ [.pointer (some ⟨r, 0, none⟩)] := by simp [ptrs]
    rw [e, List.length_append]
    refine owns_of_block hown (fun g e => Below.heap_setCell _ _ _ _ ?_)
    obtain ⟨c', hc'⟩ := row_blk hown e
    exact cells_ne hc' (eT.trans hT) (by decide)
  · intro i hi
    obtain ⟨s1, s2, s3⟩ := h.slots i hi
    exact ⟨(to _ (by omega)).trans s1, (to _ (by omega)).trans s2, (to _ (by omega)).trans s3⟩
  · have hl := h.low.size
    exact ((h.low.trans ((Below.refl _ W).alloc hl tmp)).grown hg (by simp; omega) (fun k e => (h.row.lt k e).1)).setCell (p := ⟨_, 3, none⟩) (by simp) v'

/-- Behind 'm.place(r)': the next round's head. -/
theorem BInv.next {r : Nat} {v' : Value} {hh : Int} {W3 W4 : World} (h : BInv w xs j s ky nm hd tb l bs v W) (hr : r ∉ bs) (hrB : w.heap.size ≤ r) (h1 : 1 ≤ hh) (h3 : hh ≤ 3)
    (st : St0 ky nm hd (w.heap.size + 9) (w.heap.size + 8) (w.heap.size + 7) w.heap.size tb l bs W3) (f : FreshRun ky nm hd (w.heap.size + 9) r j W3) (t3 : W3.cell? ⟨w.heap.size + 9, 3, none⟩ = some v') (row : W3.ownsRow w.heap.size 45 1 v' (bs ++ [r]).length (ptrs (bs ++ [r])))
    (t4 : W3.cell? ⟨w.heap.size + 9, 4, none⟩ = some (.int .i64 0)) (slots : ∀ i, i < 4 → SlotIs W3 (w.heap.size + 9) 13 nm (fun _ => none) i)
    (k2 : ∀ (b : Nat) (c : Array Value) (e : TypeId), W.heap[b]? = some (.cells c e (0, 0)) → e ≠ 45 → e ≠ 50 → W3.heap[b]? = W.heap[b]?) (low : Below w.heap.size w W3) (p : Placed ky (w.heap.size + 7) r (nm r) tb (l (nm r)) W3 W4) :
    ∃ tb' l', BInv w xs (j + 1) (s + hh) ky nm hd tb' l' (bs ++ [r]) v' W4 := by
  obtain ⟨tb', l', st', keep, low'⟩ := st.place (h.len ▸ f) hr hrB p low.size
  obtain ⟨cT, hT⟩ := st.bT
  have eT := keep _ _ _ hT (by decide) (by decide)
  have kx : ∀ (b : Nat) (c : Array Value) (e : TypeId), W.heap[b]? = some (.cells c e (0, 0)) → e ≠ 45 → e ≠ 50 → e ≠ 63 → e ≠ 90 → W4.heap[b]? = some (.cells c e (0, 0)) := fun b c e hb e1 e2 e3 e4 => by
    have a := k2 b c e hb e1 e2
    exact (keep b c e (a.trans hb) e3 e4).trans (a.trans hb)
  refine ⟨tb', l', st', by simp [h.len], (World.cell?_of_block (w := W3) (a := ⟨_, 3, none⟩) eT).trans t3, owns_of_block row (fun g e => ?_), (World.cell?_of_block (w := W3) (a := ⟨_, 4, none⟩) eT).trans t4, fun i hi => (slots i hi).of_block eT,
    kx _ _ _ h.bX (by decide) (by decide) (by decide) (by decide), kx _ _ _ h.bN (by decide) (by decide) (by decide) (by decide), kx _ _ _ h.bK (by decide) (by decide) (by decide) (by decide), low.trans low', by have := h.sm0; omega, by have := h.sm1; omega⟩
  obtain ⟨c, hc⟩ := row_blk row e
  exact keep g c 45 hc (by decide) (by decide)

/-- A transaction as the law lays it. -/
def txnC (M : Nat) : Array Value :=
  #[.pointer (some ⟨M, 0, none⟩), .int .u64 1, .slice none 0 0, .slice none 0 0, .int .i64 0, .slice none 0 0, .pointer none, .pointer none, .int .i64 0, .bool false, .bool false, .int .i64 0, .map none, .string ⟨#[]⟩, .pointer none, .pointer none,
    .string ⟨#[]⟩, .pointer none, .pointer none, .string ⟨#[]⟩, .pointer none, .pointer none, .string ⟨#[]⟩, .pointer none, .pointer none, .int .i64 0]

theorem BInv.start (w W1 : World) (xs : Array Value) (h1 : W1.heap[w.heap.size + 7]? = some (.map #[] 0)) (h2 : W1.cell? ⟨w.heap.size + 8, 5, none⟩ = some (.map (some (w.heap.size + 7)))) (h3 : W1.heap.size = w.heap.size + 9)
    (h4 : Below (w.heap.size + 3) (((w.alloc (.cells xs 33)).alloc (.cells #[.string (nms 0), .string (nms 1)] 34)).alloc (.cells #[.string (ks 0), .string (ks 1), .string (ks 2), .string (ks 3)] 35)) W1)
    (h5 : ∃ c, W1.heap[w.heap.size + 8]? = some (.cells c 86 (0, 0))) :
    BInv w xs 0 0 (fun _ => 0) (fun _ => 0) (fun _ => 0) (fun _ => none) (fun _ => []) [] (.slice none 0 0) (W1.alloc (.cells (txnC (w.heap.size + 8)) 50)) := by
  have old : ∀ b, b < w.heap.size + 9 → (W1.alloc (.cells (txnC (w.heap.size + 8)) 50)).heap[b]? = W1.heap[b]? := fun b hb => Below.heap_alloc _ _ _ (by omega)
  have hT : (W1.alloc (.cells (txnC (w.heap.size + 8)) 50)).heap[w.heap.size + 9]? = some (.cells (txnC (w.heap.size + 8)) 50 (0, 0)) := by
    have := World.alloc_heap_new W1 (.cells (txnC (w.heap.size + 8)) 50)
    rw [h3] at this; exact this
  have tc : ∀ o, (W1.alloc (.cells (txnC (w.heap.size + 8)) 50)).cell? ⟨w.heap.size + 9, o, none⟩ = (txnC (w.heap.size + 8))[o]? := fun o => by simp [World.cell?, hT]
  obtain ⟨cM, hM⟩ := h5
  have hX := World.alloc_heap_new w (.cells xs 33)
  have hN := World.alloc_heap_new (w.alloc (.cells xs 33)) (.cells #[.string (nms 0), .string (nms 1)] 34)
  have hK := World.alloc_heap_new ((w.alloc (.cells xs 33)).alloc (.cells #[.string (nms 0), .string (nms 1)] 34)) (.cells #[.string (ks 0), .string (ks 1), .string (ks 2), .string (ks 3)] 35)
  simp only [World.size_alloc] at hN hK
  have low3 : Below w.heap.size w (((w.alloc (.cells xs 33)).alloc (.cells #[.string (nms 0), .string (nms 1)] 34)).alloc (.cells #[.string (ks 0), .string (ks 1), .string (ks 2), .string (ks 3)] 35)) :=
    (((Below.refl _ w).alloc (Nat.le_refl _) _).alloc (by simp) _).alloc (by simp; omega) _
  refine ⟨⟨(World.cell?_of_block (w := W1) (a := ⟨w.heap.size + 8, 5, none⟩) (old (w.heap.size + 8) (by omega))).trans h2, ⟨cM, (old _ (by omega)).trans hM⟩, ⟨#[], 0, (old _ (by omega)).trans h1, rfl⟩, ⟨_, hT⟩, by simp, by simp, by simp, fun ν _ => .inl ⟨rfl, rfl⟩, by simp, fun ν _ => by simp, by omega, by omega, by omega, by simp, by simp⟩,
    rfl, tc 3, World.ownsRow_nil _ _ _ _, tc 4, ?_, ?_, ?_, ?_, ?_, by omega, by omega⟩
  · intro i hi
    match i, hi with
    | 0, _ => exact ⟨tc 13, tc 14, tc 15⟩
    | 1, _ => exact ⟨tc 16, tc 17, tc 18⟩
    | 2, _ => exact ⟨tc 19, tc 20, tc 21⟩
    | 3, _ => exact ⟨tc 22, tc 23, tc 24⟩
  · exact (old _ (by omega)).trans ((h4.block _ (by omega)).trans ((Below.heap_alloc _ _ _ (by simp; omega)).trans ((Below.heap_alloc _ _ _ (by simp)).trans hX)))
  · exact (old _ (by omega)).trans ((h4.block _ (by omega)).trans ((Below.heap_alloc _ _ _ (by simp)).trans hN))
  · exact (old _ (by omega)).trans ((h4.block _ (by omega)).trans hK)
  · exact (low3.trans (h4.mono (by omega))).alloc (by omega) _
end Go.Proofs.Ybulkbhqs
