/-
  'leave' by a contract: the walk. Own work on this program.
-/
import Derived.Test.YbulkbhqsLeave2
namespace Go.Proofs.Ybulkbhqs
open Go.RowKit
set_option linter.unusedVariables false

/-- The list without the run at pos: the last takes its place. -/
def swapOut (cur : List Nat) (pos last : Nat) : List Nat := (cur.set pos last).dropLast

/-- What 'newest' and the store behind it make of the slots. -/
def slotsOut (nm : Nat → Nat) (nl : Nat → Option Nat) (ν r : Nat) (nl' : Nat → Option Nat) : Prop :=
  ∃ o, First nm nl ν o ∧ nl' = match o with
    | none => nl
    | some i => if nl i = some r then upd nl i none else nl

/-- What the tail of 'leave' does behind 'forget'; nl': the slots as they stand then. -/
structure LCore (nm : Nat → Nat) (T B pos last g cap : Nat) (nl' : Nat → Option Nat) (cur : List Nat) (W W' : World) : Prop where
  kept : Kept [g, last, T] W W'
  t3 : W'.cell? ⟨T, 3, none⟩ = some (.slice (some ⟨g, 0, none⟩) (cur.length - 1) cap)
  row : W'.ownsRow B 45 1 (.slice (some ⟨g, 0, none⟩) (cur.length - 1) cap) (cur.length - 1) (ptrs (swapOut cur pos last))
  at' : W'.cell? ⟨last, 14, none⟩ = some (.int .i64 pos)
  lo : ∀ o, o ≠ 14 → W'.cell? ⟨last, o, none⟩ = W.cell? ⟨last, o, none⟩
  c63 : ∀ x : Nat, (∃ c : Array Value, W.heap[x]? = some (Obj.cells c 63 (0, 0))) → ∃ c : Array Value, W'.heap[x]? = some (Obj.cells c 63 (0, 0))
  t4 : W'.cell? ⟨T, 4, none⟩ = W.cell? ⟨T, 4, none⟩
  slots : ∀ i, i < 4 → SlotIs W' T 13 nm nl' i
  bT : ∃ c, W'.heap[T]? = some (.cells c 50 (0, 0))

variable {ky nm : Nat → Nat} {M T Rm r ν t n B pos : Nat} {h s : Int} {root : Option Nat} {tb nl : Nat → Option Nat} {l cur : List Nat} {v : Value} {W : World}

theorem swap_ptrs (cur : List Nat) (pos last k : Nat) (hk : cur.length = k + 1) : ∃ x, ((ptrs cur).set pos (.pointer (some ⟨last, 0, none⟩))) = ptrs (swapOut cur pos last) ++ [x] := by
  have e : (ptrs cur).set pos (.pointer (some ⟨last, 0, none⟩)) = ptrs (cur.set pos last) := by simp [ptrs, List.map_set]
  rw [e]
  have hne : cur.set pos last ≠ [] := by intro h; have := congrArg List.length h; rw [List.length_set, hk] at this; cases this
  refine ⟨.pointer (some ⟨(cur.set pos last).getLast hne, 0, none⟩), ?_⟩
  conv => lhs; rw [← List.dropLast_concat_getLast hne]
  simp [ptrs, swapOut]

theorem core_mk {q last g cap : Nat} {W2 : World} (a : LAft ky nm T r ν B pos nl cur (.slice (some ⟨g, 0, none⟩) cur.length cap) W2) (hpos : pos < cur.length) (hlm : last ∈ cur) :
    LCore nm T B pos last g cap nl cur W2 ((((W2.drewN q).setCell ⟨g, pos, none⟩ (.pointer (some ⟨last, 0, none⟩))).setCell ⟨last, 14, none⟩ (.int .i64 pos)).setCell ⟨T, 3, none⟩ (.slice (some ⟨g, 0, none⟩) (cur.length - 1) cap)).drew := by
  obtain ⟨hNl, al, hal⟩ := a.cok last hlm
  obtain ⟨cT, hcT⟩ := a.bT
  obtain ⟨cg, hcg⟩ := row_blk a.row rfl
  obtain ⟨cl, hcl⟩ := hNl.blkc
  have n1 : g ≠ T := cells_ne hcg hcT (by decide)
  have n3 : g ≠ last := cells_ne hcg hcl (by decide)
  have n4 : T ≠ last := cells_ne hcT hcl (by decide)
  have f1 : ∀ b, b ≠ g → ((W2.drewN q).setCell ⟨g, pos, none⟩ (.pointer (some ⟨last, 0, none⟩))).heap[b]? = W2.heap[b]? := fun b hb => Below.heap_setCell _ _ _ _ hb
  have f2 : ∀ b, b ≠ last → (((W2.drewN q).setCell ⟨g, pos, none⟩ (.pointer (some ⟨last, 0, none⟩))).setCell ⟨last, 14, none⟩ (.int .i64 pos)).heap[b]? = ((W2.drewN q).setCell ⟨g, pos, none⟩ (.pointer (some ⟨last, 0, none⟩))).heap[b]? := fun b hb => Below.heap_setCell _ _ _ _ hb
  have f3 : ∀ b, b ≠ T → ((((W2.drewN q).setCell ⟨g, pos, none⟩ (.pointer (some ⟨last, 0, none⟩))).setCell ⟨last, 14, none⟩ (.int .i64 pos)).setCell ⟨T, 3, none⟩ (.slice (some ⟨g, 0, none⟩) (cur.length - 1) cap)).drew.heap[b]? = (((W2.drewN q).setCell ⟨g, pos, none⟩ (.pointer (some ⟨last, 0, none⟩))).setCell ⟨last, 14, none⟩ (.int .i64 pos)).heap[b]? := fun b hb => Below.heap_setCell _ _ _ _ hb
  have eT : (((W2.drewN q).setCell ⟨g, pos, none⟩ (.pointer (some ⟨last, 0, none⟩))).setCell ⟨last, 14, none⟩ (.int .i64 pos)).heap[T]? = W2.heap[T]? := (f2 T n4).trans (f1 T (Ne.symm n1))
  have tc : ∀ o, (((W2.drewN q).setCell ⟨g, pos, none⟩ (.pointer (some ⟨last, 0, none⟩))).setCell ⟨last, 14, none⟩ (.int .i64 pos)).cell? ⟨T, o, none⟩ = W2.cell? ⟨T, o, none⟩ := fun o => World.cell?_of_block (a := ⟨T, o, none⟩) eT
  have tc3 : ∀ o, o ≠ 3 → ((((W2.drewN q).setCell ⟨g, pos, none⟩ (.pointer (some ⟨last, 0, none⟩))).setCell ⟨last, 14, none⟩ (.int .i64 pos)).setCell ⟨T, 3, none⟩ (.slice (some ⟨g, 0, none⟩) (cur.length - 1) cap)).drew.cell? ⟨T, o, none⟩ = W2.cell? ⟨T, o, none⟩ := fun o ho => (World.cell?_setCell_other _ _ _ _ (by simp)).trans (tc o)
  have lc : ∀ o, ((((W2.drewN q).setCell ⟨g, pos, none⟩ (.pointer (some ⟨last, 0, none⟩))).setCell ⟨last, 14, none⟩ (.int .i64 pos)).setCell ⟨T, 3, none⟩ (.slice (some ⟨g, 0, none⟩) (cur.length - 1) cap)).drew.cell? ⟨last, o, none⟩ = (((W2.drewN q).setCell ⟨g, pos, none⟩ (.pointer (some ⟨last, 0, none⟩))).setCell ⟨last, 14, none⟩ (.int .i64 pos)).cell? ⟨last, o, none⟩ := fun o => World.cell?_of_block (a := ⟨last, o, none⟩) (f3 last (Ne.symm n4))
  have lc1 : ∀ o, ((W2.drewN q).setCell ⟨g, pos, none⟩ (.pointer (some ⟨last, 0, none⟩))).cell? ⟨last, o, none⟩ = W2.cell? ⟨last, o, none⟩ := fun o => World.cell?_of_block (a := ⟨last, o, none⟩) (f1 last (Ne.symm n3))
  refine ⟨?_, World.cell?_setCell_same _ _ _ ((tc 3).trans a.t3), ?_, (lc 14).trans (World.cell?_setCell_same _ _ _ ((lc1 14).trans hal)), fun o ho => (lc o).trans ((World.cell?_setCell_other _ _ _ _ (by simp)).trans (lc1 o)), ?_, tc3 4 (by omega), ?_, ?_⟩
  · exact ((((Kept.refl [g, last, T] W2).drewN q).trans (Kept.set _ _ _ _ (by simp) _)).trans (Kept.set _ _ _ _ (by simp) _)).trans (Kept.set _ _ _ _ (by simp) _)|>.drew
  · have r0 : (W2.drewN q).ownsRow B 45 1 (.slice (some ⟨g, 0, none⟩) cur.length cap) cur.length (ptrs cur) := a.row
    obtain ⟨r1, _⟩ := r0.stored pos (.pointer (some ⟨last, 0, none⟩))
    obtain ⟨k, hk⟩ : ∃ k, cur.length = k + 1 := ⟨cur.length - 1, by omega⟩
    obtain ⟨y, hy⟩ := swap_ptrs cur pos last k hk
    rw [hy, hk] at r1
    have r2 := ownsRow_pop (by simp [ptrs, swapOut, hk]) r1
    rw [show k = cur.length - 1 from by omega] at r2
    refine owns_of_block r2 (fun x e => ?_)
    obtain rfl : g = x := by simpa [Value.ownBlock] using e
    exact (f3 g n1).trans (f2 g n3)
  · rintro x ⟨c, hc⟩
    have e3 := f3 x (Ne.symm (cells_ne hcT hc (by decide)))
    have e1 := f1 x (Ne.symm (cells_ne hcg hc (by decide)))
    by_cases e : x = last
    · subst e
      obtain ⟨c', h'⟩ := setCell_isc ((W2.drewN q).setCell ⟨g, pos, none⟩ (.pointer (some ⟨x, 0, none⟩))) ⟨x, 14, none⟩ (.int .i64 pos) c 63 (0, 0) (e1.trans hc)
      exact ⟨c', e3.trans h'⟩
    · exact ⟨c, e3.trans ((f2 x e).trans (e1.trans hc))⟩
  · intro i hi
    obtain ⟨s1, s2, s3⟩ := a.slots i hi
    exact ⟨(tc3 _ (by omega)).trans s1, (tc3 _ (by omega)).trans s2, (tc3 _ (by omega)).trans s3⟩
  · exact setCell_isc _ ⟨T, 3, none⟩ _ cT 50 (0, 0) (eT.trans hcT)

/-- A slot is laid empty. -/
theorem LCore.clear {last g cap : Nat} {W2 W4 : World} (a : LCore nm T B pos last g cap nl cur W2 W4) (i : Nat) (hi : i < 4) (hlT : T ≠ last) (hgT : g ≠ T) :
    LCore nm T B pos last g cap (upd nl i none) cur W2 (((W4.setCell ⟨T, 13 + i * 3, none⟩ (.string ⟨#[]⟩)).setCell ⟨T, 13 + i * 3 + 1, none⟩ (.pointer none)).setCell ⟨T, 13 + i * 3 + 2, none⟩ (.pointer none)) := by
  obtain ⟨s1, s2, s3⟩ := a.slots i hi
  have f : ∀ b, b ≠ T → (((W4.setCell ⟨T, 13 + i * 3, none⟩ (.string ⟨#[]⟩)).setCell ⟨T, 13 + i * 3 + 1, none⟩ (.pointer none)).setCell ⟨T, 13 + i * 3 + 2, none⟩ (.pointer none)).heap[b]? = W4.heap[b]? :=
    fun b hb => (Below.heap_setCell _ _ _ _ hb).trans ((Below.heap_setCell _ _ _ _ hb).trans (Below.heap_setCell _ _ _ _ hb))
  have tc : ∀ o, (o < 13 + i * 3 ∨ 13 + i * 3 + 2 < o) → (((W4.setCell ⟨T, 13 + i * 3, none⟩ (.string ⟨#[]⟩)).setCell ⟨T, 13 + i * 3 + 1, none⟩ (.pointer none)).setCell ⟨T, 13 + i * 3 + 2, none⟩ (.pointer none)).cell? ⟨T, o, none⟩ = W4.cell? ⟨T, o, none⟩ := by
    intro o ho
    have e : ∀ k, k < 3 → (⟨T, 13 + i * 3 + k, none⟩ : Addr) ≠ ⟨T, o, none⟩ := by intro k hk e; simp at e
    exact (World.cell?_setCell_other _ _ _ _ (e 2 (by omega))).trans ((World.cell?_setCell_other _ _ _ _ (e 1 (by omega))).trans (World.cell?_setCell_other _ _ _ _ (e 0 (by omega))))
  have lc : ∀ o, (((W4.setCell ⟨T, 13 + i * 3, none⟩ (.string ⟨#[]⟩)).setCell ⟨T, 13 + i * 3 + 1, none⟩ (.pointer none)).setCell ⟨T, 13 + i * 3 + 2, none⟩ (.pointer none)).cell? ⟨last, o, none⟩ = W4.cell? ⟨last, o, none⟩ := fun o => World.cell?_of_block (a := ⟨last, o, none⟩) (f last (Ne.symm hlT))
  refine ⟨?_, (tc 3 (by omega)).trans a.t3, ?_, (lc 14).trans a.at', fun o ho => (lc o).trans (a.lo o ho), ?_, (tc 4 (by omega)).trans a.t4, ?_, ?_⟩
  · exact ((a.kept.trans (Kept.set _ _ _ _ (by simp) _)).trans (Kept.set _ _ _ _ (by simp) _)).trans (Kept.set _ _ _ _ (by simp) _)
  · refine owns_of_block a.row (fun x e => ?_)
    obtain rfl : g = x := by simpa [Value.ownBlock] using e
    exact f g hgT
  · intro x hx
    obtain ⟨c, hc⟩ := a.c63 x hx
    obtain ⟨cT, hT⟩ := a.bT
    exact ⟨c, (f x (Ne.symm (cells_ne hT hc (by decide)))).trans hc⟩
  · intro j hj
    by_cases e : j = i
    · subst e
      have u : upd nl j none j = none := by simp [upd]
      have d1 : (W4.setCell ⟨T, 13 + j * 3, none⟩ (.string ⟨#[]⟩)).cell? ⟨T, 13 + j * 3, none⟩ = some (.string ⟨#[]⟩) := World.cell?_setCell_same _ _ _ s1
      have d2 : (W4.setCell ⟨T, 13 + j * 3, none⟩ (.string ⟨#[]⟩)).cell? ⟨T, 13 + j * 3 + 1, none⟩ = some (ptr (nl j)) := (World.cell?_setCell_other _ _ _ _ (by simp)).trans s2
      have d3 : (W4.setCell ⟨T, 13 + j * 3, none⟩ (.string ⟨#[]⟩)).cell? ⟨T, 13 + j * 3 + 2, none⟩ = some (.pointer none) := (World.cell?_setCell_other _ _ _ _ (by simp)).trans s3
      have e2 : ((W4.setCell ⟨T, 13 + j * 3, none⟩ (.string ⟨#[]⟩)).setCell ⟨T, 13 + j * 3 + 1, none⟩ (.pointer none)).cell? ⟨T, 13 + j * 3 + 1, none⟩ = some (.pointer none) := World.cell?_setCell_same _ _ _ d2
      have e3 : ((W4.setCell ⟨T, 13 + j * 3, none⟩ (.string ⟨#[]⟩)).setCell ⟨T, 13 + j * 3 + 1, none⟩ (.pointer none)).cell? ⟨T, 13 + j * 3 + 2, none⟩ = some (.pointer none) := (World.cell?_setCell_other _ _ _ _ (by simp)).trans d3
      refine ⟨?_, ?_, ?_⟩
      · rw [u]; exact (World.cell?_setCell_other _ _ _ _ (by simp)).trans ((World.cell?_setCell_other _ _ _ _ (by simp)).trans d1)
      · rw [u]; exact (World.cell?_setCell_other _ _ _ _ (by simp)).trans e2
      · exact World.cell?_setCell_same _ _ _ e3
    · obtain ⟨k1, k2, k3⟩ := a.slots j hj
      have u : upd nl i none j = nl j := by simp [upd, e]
      exact ⟨by rw [u]; exact (tc _ (by omega)).trans k1, by rw [u]; exact (tc _ (by omega)).trans k2, (tc _ (by omega)).trans k3⟩
  · obtain ⟨cT, hT⟩ := a.bT
    obtain ⟨c1, h1⟩ := setCell_isc W4 ⟨T, 13 + i * 3, none⟩ (.string ⟨#[]⟩) cT 50 (0, 0) hT
    obtain ⟨c2, h2⟩ := setCell_isc _ ⟨T, 13 + i * 3 + 1, none⟩ (.pointer none) c1 50 (0, 0) h1
    exact setCell_isc _ ⟨T, 13 + i * 3 + 2, none⟩ (.pointer none) c2 50 (0, 0) h2

/-- What 'leave' leaves. -/
def LPost (ky nm : Nat → Nat) (T Rm r ν t B pos idx : Nat) (h s : Int) (tb nl : Nat → Option Nat) (l cur : List Nat) (v : Value) (W W' : World) : Prop :=
  ∃ W1 g cap, Headed ky r T g cap idx h s W W1 ∧
    ((2 ≤ h ∧ W' = W1) ∨ (h = 1 ∧ ∃ W2 last gq capq nl', Forgot ky Rm r ν t tb l W1 W2 ∧ cur[cur.length - 1]? = some last ∧ v = .slice (some ⟨gq, 0, none⟩) cur.length capq ∧ slotsOut nm nl ν r nl' ∧ LCore nm T B pos last gq capq nl' cur W2 W'))

set_option maxRecDepth 100000 in
set_option maxHeartbeats 4000000 in
theorem leave_any (idx : Nat) (hidx : idx ≤ 1023) (p : LPre ky nm M T Rm r ν t n B pos h s root tb nl l cur v W) :
    Calls Yba.prog 12 #[.pointer (some ⟨M, 0, none⟩), .pointer (some ⟨r, 0, none⟩), .int .i64 idx] W fun e W' => e = .returned (.tuple #[]) ∧ LPost ky nm T Rm r ν t B pos idx h s tb nl l cur v W W' := by
  obtain ⟨i0, hi, hz0, hz1, hz2⟩ := info_parts Yba.info39
  have hN := p.ok r p.hr
  obtain ⟨cr, hcr⟩ := hN.blkc
  have hrl : r < W.heap.size := (Array.getElem?_eq_some_iff.1 hcr).1
  have hob := or_bitv idx
  have h1 := p.h1
  have h3 := p.h3
  have s0 := p.s0
  have s1 := p.s1
  have HP := (show Hid _ from p)
  have c13 := p.c13
  go_enter Yba.func12, Yba.ntmps12
  go_wp2_with fail
  go_loopg [] (idx / 64 + 1) (fun k wr => ∃ (i : Nat) (vg : Value), i + k = idx / 64 + 1 ∧ Gone r W i vg wr)
  case atStart => exact ⟨0, _, by omega, c13, World.ownsRow_nil _ _ _ _, Kept.refl _ _, fun _ _ => rfl, cr, hcr⟩
  case round =>
    obtain ⟨i, vg, hik, hG⟩ := hrel
    have g13 := hG.c13
    have hrow := hG.row
    have hf : ∃ a n c, vg = .slice a n c ∧ n = i := by
      rcases hrow.2 with ⟨rfl, h0⟩ | ⟨g, cap, cur, rfl, _⟩
      · exact ⟨_, _, _, rfl, h0.symm⟩
      · exact ⟨_, _, _, rfl, rfl⟩
    obtain ⟨a, n, c, rfl, rfl⟩ := hf
    cases gk with
    | zero =>
      have hlt : ¬ n ≤ idx / 64 := by omega
      obtain ⟨g, cap, e⟩ := owns_succ hrow (by omega)
      simp only [Value.slice.injEq, true_and] at e
      obtain ⟨rfl, rfl⟩ := e
      obtain rfl : n = idx / 64 + 1 := by omega
      have gw : wr.cell? ⟨g, idx / 64, none⟩ = some (.int .u64 0) := (hrow.cellAt (idx / 64) (by omega)).trans (by simp [zs])
      have gf := hrow.frozenAt (idx / 64)
      have g12 := (hG.oth 12 (by omega)).trans HP.out.c12
      have g0 := (hG.oth 0 (by omega)).trans HP.out.c0
      have f12 := hG.fz 12
      have hgs : W.heap.size ≤ g := (hrow.lt g rfl).1
      have hne : g ≠ r := by omega
      have hTl : T < W.heap.size := by obtain ⟨c, hc⟩ := HP.out.bT; exact (Array.getElem?_eq_some_iff.1 hc).1
      have hneT : g ≠ T := by omega
      have hTr : T ≠ r := by obtain ⟨c, hc⟩ := HP.out.bT; exact cells_ne hc hcr (by decide)
      have eT : wr.heap[T]? = W.heap[T]? := hG.kept.blk T hTl (by simp [hTr])
      have t4' : wr.cell? ⟨T, 4, none⟩ = some (.int .i64 s) := (World.cell?_of_block (w := W) (a := ⟨T, 4, none⟩) eT).trans HP.out.t4
      have fT4 : wr.frozen? ⟨T, 4, none⟩ = false := by obtain ⟨c, hc⟩ := HP.out.bT; simp [World.frozen?, eT, hc]
      have HH := (show Hid _ from headed_mk (ky := ky) hG hN HP.out.bT HP.out.c12 HP.out.t4)
      clear hik hlt hrow hG p eT c13 hcr
      by_cases hbig : 2 ≤ h
      · go_wp2_with fail
        go_region
        go_wp2_with fail
        refine bodyPost_ret (results_none rfl _ _ _) rfl ?_
        exact ⟨rfl, _, g, c, HH.out, .inl ⟨hbig, rfl⟩⟩
      · obtain rfl : h = 1 := by omega
        have HH2 := HH.out
        simp only [Int.sub_self] at HH2
        have HH3 := (show Hid _ from HH2)
        clear HH HH2
        go_wp2_with fail
        go_region
        go_wp2_with fail
        generalize (((wr.setCell ⟨g, idx / 64, none⟩ (.int .u64 (bitv idx))).setCell ⟨r, 12, none⟩ (.int .i64 0)).setCell ⟨T, 4, none⟩ (.int .i64 (s - 1))).drew = W1 at *
        have mid := mid_of_head HP.out HH3.out
        clear gw gf g12 g0 f12 fT4 t4'
        refine (forget_any ky M Rm r ν t n root tb l W1 mid.cM ?_ ?_ mid.map HP.out.hν mid.idx mid.of mid.ok HP.out.hr HP.out.ht mid.bx mid.tr HP.out.nd).mono ?_
        · obtain ⟨c, hc⟩ := mid.bM
          intro hm
          obtain ⟨c', hc'⟩ := (mid.ok M hm).blkc
          exact cells_ne hc hc' (by decide) rfl
        · obtain ⟨c, hc⟩ := mid.bM
          exact cells_ne hc mid.bx (by decide)
        rintro e W2 ⟨rfl, hF⟩
        have aft := aft_of_forgot mid hF HP.out.hr
        have hpl : pos < cur.length := (List.getElem?_eq_some_iff.1 HP.out.hpos).1
        have hlen := HP.out.len
        obtain ⟨gq, capq, hv⟩ := owns_succ aft.row (by omega)
        have hrow2 := aft.row
        rw [hv] at hrow2
        have t3 := aft.t3
        rw [hv] at t3
        obtain ⟨last, hlast⟩ : ∃ x, cur[cur.length - 1]? = some x := ⟨_, List.getElem?_eq_getElem (by omega)⟩
        have hlm : last ∈ cur := List.mem_of_getElem? hlast
        obtain ⟨hNl, al, hal⟩ := aft.cok last hlm
        obtain ⟨cT, hcT⟩ := aft.bT
        obtain ⟨cg, hcg⟩ := row_blk hrow2 rfl
        obtain ⟨cr2, hcr2⟩ := (hF.nodes r HP.out.hr).blkc
        obtain ⟨cl, hcl⟩ := hNl.blkc
        have cl1 : W2.cell? ⟨gq, cur.length - 1, none⟩ = some (.pointer (some ⟨last, 0, none⟩)) := (hrow2.cellAt _ (by omega)).trans (by simp [ptrs, hlast])
        have cp : W2.cell? ⟨gq, pos, none⟩ = some (.pointer (some ⟨r, 0, none⟩)) := (hrow2.cellAt _ (by omega)).trans (by simp [ptrs, HP.out.hpos])
        have fp := hrow2.frozenAt pos
        have fl := hNl.fz 14
        have cat := aft.at'
        have cix := aft.idx
        have n1 : gq ≠ T := cells_ne hcg hcT (by decide)
        have n2 : gq ≠ r := cells_ne hcg hcr2 (by decide)
        have n3 : gq ≠ last := cells_ne hcg hcl (by decide)
        have n4 : T ≠ last := cells_ne hcT hcl (by decide)
        have f3 : W2.frozen? ⟨T, 3, none⟩ = false := by simp [World.frozen?, hcT]
        have hcq : cur.length ≤ capq := by
          rcases hrow2.2 with ⟨h0, _⟩ | ⟨g', cap', _, h0, _, _, h1, _⟩
          · cases h0
          · cases h0; exact h1
        have hcq' : (cur.length : Int) - 1 ≤ (capq : Int) := by omega
        have hcq0 : (0 : Int) ≤ (cur.length : Int) - 1 := by omega
        have HV := (show Hid _ from And.intro hv hlast)
        have HA := (show Hid _ from aft)
        have HF := (show Hid _ from hF)
        have HB := (show Hid _ from And.intro hcT (And.intro hcg (And.intro hcr2 (And.intro hcl hal))))
        clear hv hlast aft hF hcT hcg hcr2 hcl mid hob hN hz0 hz1 hz2 hi
        go_wp2_with fail
        go_quiet (fail)
        go_wp2_with fail
        go_region
        go_wp2_with fail
        go_region
        go_wp2_with fail
        have hcore := core_mk (q := nq + 1) (HV.out.1 ▸ HA.out) hpl hlm
        generalize ((((W2.drewN (nq + 1)).setCell ⟨gq, pos, none⟩ (.pointer (some ⟨last, 0, none⟩))).setCell ⟨last, 14, none⟩ (.int .i64 pos)).setCell ⟨T, 3, none⟩ (.slice (some ⟨gq, 0, none⟩) (cur.length - 1) capq)).drew = W4 at *
        clear t3 hal cl1 cp fp fl cat cix f3 hcq hcq' hcq0 hrow2
        refine (newest_any T nm nl ν HP.out.hν (fun i hi b hb => (HA.out.hn i hi b hb).1) W4 hcore.slots).mono ?_
        rintro e w' ⟨o, rfl, hfirst, rfl⟩
        cases o with
        | none =>
          have HFI := (show Hid _ from hfirst)
          clear hfirst
          simp only [slotPtr]
          go_wp2_with fail
          go_end0
          exact ⟨rfl, W1, g, c, HH3.out, .inr ⟨rfl, W2, last, gq, capq, nl, HF.out, HV.out.2, HV.out.1, ⟨none, HFI.out, rfl⟩, hcore⟩⟩
        | some i =>
          obtain ⟨hi4, ⟨b, hb, hbν⟩, hmin⟩ := id hfirst
          obtain ⟨hs1, hs2, hs3⟩ := hcore.slots i hi4
          rw [hb] at hs2 hs1
          simp only [ptr, pa, nix] at hs1 hs2
          have hNb := (HA.out.hn i hi4 b hb).2
          have bb := hcore.c63 b hNb.blkc
          have br := hcore.c63 r (HF.out.nodes r HP.out.hr).blkc
          have HFI := (show Hid _ from And.intro hfirst (And.intro hb (And.intro bb br)))
          have hcT := hcore.bT
          obtain ⟨cT4, hcT4⟩ := hcT
          have fT : ∀ o, w'.frozen? ⟨T, o, none⟩ = false := fun o => by simp [World.frozen?, hcT4]
          have fa := fT (13 + i * 3)
          have fb := fT (13 + i * 3 + 1)
          have fc := fT (13 + i * 3 + 2)
          clear hfirst hmin hb bb br hcT4 fT
          simp only [slotPtr]
          by_cases hbr : b = r
          · subst hbr
            have heq := eql_same ⟨b, 0, none⟩ w'
            go_wp2_with fail
            go_end0
            exact ⟨rfl, W1, g, c, HH3.out, .inr ⟨rfl, W2, last, gq, capq, upd nl i none, HF.out, HV.out.2, HV.out.1, ⟨some i, HFI.out.1, by simp [HFI.out.2.1]⟩, hcore.clear i hi4 n4 n1⟩⟩
          · have heq := eql_other hbr HFI.out.2.2.1 HFI.out.2.2.2
            go_wp2_with fail
            go_end0
            exact ⟨rfl, W1, g, c, HH3.out, .inr ⟨rfl, W2, last, gq, capq, nl, HF.out, HV.out.2, HV.out.1, ⟨some i, HFI.out.1, by simp [HFI.out.2.1, hbr]⟩, hcore⟩⟩
    | succ k =>
      have hle : n ≤ idx / 64 := by omega
      have HI := (show Hid _ from hik)
      clear hik p
      go_wp2_with (at_builtin; refine wpList_append_own _ rfl _ _ 57 rfl W.heap.size 39 i0 (.int .u64 0) 1 8 Yba.underlying57 hi hz0 hz1 hz2 rfl (by decide) _ _ _ rfl (hrow.alloc _) ⟨wr.heap.size, 0, none⟩ 1 1 [.int .u64 0] rfl rfl (one_new _ _ _) (by simp [Value.oneCell']) (by unfold maxLen; omega) (by omega) (by have := hG.kept.size; simp; omega) ?_; intro v' w1 hown hgrow _; obtain ⟨s13, sf, hG'⟩ := hG.step hrl hown hgrow; obtain ⟨g', cap', rfl⟩ := ownsRow_succ hown; clear hown hgrow)
      go_roundg k
      case measure => omega
      case rel => exact ⟨n + 1, _, by have := HI.out; omega, hG'⟩
end Go.Proofs.Ybulkbhqs
