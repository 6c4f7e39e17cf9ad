/-
  LawS2930BLeave, walked whole. Own work on this program.
-/
import Derived.Test.YbulkbhqsEq
import Derived.Deep.CutBlock
import Derived.Deep.DeepCutAuto
namespace Go.Proofs.Ybulkbhqs
open Go.RowKit
set_option linter.unusedVariables false

/-- The elements of the argument. -/
structure IsRuns (W : World) (b off len : Nat) (ix key : Nat → Int) (dn : Nat → Bool) (hl pr : Nat → Int) : Prop where
  lt : b < W.heap.size
  el : ∀ j, j < len → W.cell? ⟨b, off + j * 5, none⟩ = some (.int .u8 (ix j)) ∧ W.cell? ⟨b, off + j * 5 + 1, none⟩ = some (.int .u8 (key j)) ∧ W.cell? ⟨b, off + j * 5 + 2, none⟩ = some (.bool (dn j)) ∧ W.cell? ⟨b, off + j * 5 + 3, none⟩ = some (.int .u8 (hl j)) ∧
    W.cell? ⟨b, off + j * 5 + 4, none⟩ = some (.int .u64 (pr j))
  bd : ∀ j, j < len → 0 ≤ ix j ∧ ix j ≤ 255 ∧ 0 ≤ key j ∧ key j ≤ 255 ∧ 0 ≤ hl j ∧ hl j ≤ 255

theorem ks_at {W : World} {b : Nat} (h : W.heap[b]? = some (.cells #[.string (ks 0), .string (ks 1), .string (ks 2), .string (ks 3)] 35 (0, 0))) (i : Nat) (hi : i < 4) : W.cell? ⟨b, i, none⟩ = some (.string (ks i)) := by
  match i, hi with
  | 0, _ => simp [World.cell?, h]
  | 1, _ => simp [World.cell?, h]
  | 2, _ => simp [World.cell?, h]
  | 3, _ => simp [World.cell?, h]
theorem nms_at {W : World} {b : Nat} (h : W.heap[b]? = some (.cells #[.string (nms 0), .string (nms 1)] 34 (0, 0))) (i : Nat) (hi : i < 2) : W.cell? ⟨b, i, none⟩ = some (.string (nms i)) := by
  match i, hi with
  | 0, _ => simp [World.cell?, h]
  | 1, _ => simp [World.cell?, h]

/-- The four numbers. -/
def nx4 (x0 x1 x2 x3 : Int) : Nat → Int
  | 0 => x0
  | 1 => x1
  | 2 => x2
  | _ => x3

theorem nx_at {W : World} {b : Nat} {x0 x1 x2 x3 : Int} (h : W.heap[b]? = some (.cells #[.int .u8 x0, .int .u8 x1, .int .u8 x2, .int .u8 x3] 33 (0, 0))) (i : Nat) (hi : i < 4) : W.cell? ⟨b, i, none⟩ = some (.int .u8 (nx4 x0 x1 x2 x3 i)) := by
  match i, hi with
  | 0, _ => simp [World.cell?, h, nx4]
  | 1, _ => simp [World.cell?, h, nx4]
  | 2, _ => simp [World.cell?, h, nx4]
  | 3, _ => simp [World.cell?, h, nx4]

theorem nx_bd {x0 x1 x2 x3 : Int} (h0 : 0 ≤ x0 ∧ x0 ≤ 255) (h1 : 0 ≤ x1 ∧ x1 ≤ 255) (h2 : 0 ≤ x2 ∧ x2 ≤ 255) (h3 : 0 ≤ x3 ∧ x3 ≤ 255) (i : Nat) (hi : i < 4) : 0 ≤ nx4 x0 x1 x2 x3 i ∧ nx4 x0 x1 x2 x3 i ≤ 255 := by
  match i, hi with
  | 0, _ => exact h0
  | 1, _ => exact h1
  | 2, _ => exact h2
  | 3, _ => exact h3

theorem own_cap {w : World} {base : Nat} {e : TypeId} {size g cap n : Nat} {xs : List Value} (h : w.ownsRow base e size (.slice (some ⟨g, 0, none⟩) n cap) n xs) : n ≤ cap := by
  rcases h.2 with ⟨h0, _⟩ | ⟨g', cap', cur, hv, hg, hh, hn, _⟩
  · cases h0
  · cases hv; exact hn

theorem want_swap {w : World} {base gc j cc pos last : Nat} {bs : List Nat} (h : w.ownsRow base 45 1 (.slice (some ⟨gc, 0, none⟩) j cc) j (ptrs bs)) (hl : bs.length = j) (hj : 0 < j) :
    (w.setCell ⟨gc, pos, none⟩ (.pointer (some ⟨last, 0, none⟩))).ownsRow base 45 1 (.slice (some ⟨gc, 0, none⟩) (j - 1) cc) (j - 1) (ptrs (swapOut bs pos last)) := by
  obtain ⟨k, rfl⟩ : ∃ k, j = k + 1 := ⟨j - 1, by omega⟩
  obtain ⟨r1, _⟩ := h.stored pos (.pointer (some ⟨last, 0, none⟩))
  obtain ⟨y, hy⟩ := swap_ptrs bs pos last k hl
  rw [hy] at r1
  exact ownsRow_pop (by simp [ptrs, swapOut, hl]) r1

theorem swap_len {bs : List Nat} {pos last : Nat} : (swapOut bs pos last).length = bs.length - 1 := by simp [swapOut]

theorem Yba.info9 : (Yba.prog.info? 9).map (fun i => i.size) = some 1 := by kernel_rfl
theorem index_two (a b : ByteArray) (w : World) : (Instr.index 34 (.agg #[.string a, .string b]) (.int .i64 0)).run Yba.prog w = .ok (.string a) w ∧ (Instr.index 34 (.agg #[.string a, .string b]) (.int .i64 1)).run Yba.prog w = .ok (.string b) w := by
  obtain ⟨j, hj, h1⟩ := Option.map_eq_some_iff.1 Yba.info9
  constructor
  · simp [Instr.index, run_underlying Yba.underlying34, asIntOf, go_sem, part, sizeOf, typeInfo, hj]
  · simp [Instr.index, run_underlying Yba.underlying34, asIntOf, go_sem, part, sizeOf, typeInfo, hj, h1]

theorem take_yes {cur : List Nat} {p : Nat → Bool} {k : Nat} (h : k < cur.length) (hp : p cur[k] = true) : ((cur.take (k + 1)).filter p).length = ((cur.take k).filter p).length + 1 := by
  rw [List.take_succ_eq_append_getElem h, List.filter_append]; simp [hp]
theorem take_no {cur : List Nat} {p : Nat → Bool} {k : Nat} (h : k < cur.length) (hp : p cur[k] = false) : ((cur.take (k + 1)).filter p).length = ((cur.take k).filter p).length := by
  rw [List.take_succ_eq_append_getElem h, List.filter_append]; simp [hp]

/-- Is the run still in the row? -/
theorem went_mem {nm : Nat → Nat} {r pos : Nat} {h : Int} {bs cur : List Nat} {nl nl' : Nat → Option Nat} {v v' : Value} (hw : Went nm r pos h bs nl v cur nl' v') (hpos : bs[pos]? = some r) (hnd : bs.Nodup) : r ∈ cur ↔ h ≠ 1 := by
  rcases hw with ⟨h2, rfl, _⟩ | ⟨h1, last, hl, rfl, _⟩
  · exact ⟨fun _ => by omega, fun _ => List.mem_of_getElem? hpos⟩
  · have hp := swapOut_perm hpos hl
    have := hp.nodup_iff.1 hnd
    exact ⟨fun k => absurd k (List.nodup_cons.1 this).1, fun k => absurd h1 k⟩

theorem eql_nil_left (a : Addr) (x : World) : (binOp .eql 45 (.pointer none) (.pointer (some a))).run Yba.prog x = .ok (.bool false) x := by
  have h : ∀ d : Nat, (Op.equalIn (d + 1) 45 (.pointer none) (.pointer (some a))).run Yba.prog x = .ok false x := fun d => by
    simp [Op.equalIn, run_underlying Yba.underlying45]
  simp only [binOp]
  simp [Op.equal, Op.maxDepth, h 9999]
theorem words_here (idx : Nat) : (words idx)[idx / 64]? = some (.int .u64 (IntKind.u64.wrap (2 ^ (idx % 64)))) := by simp [words, zs, bitv]
theorem words_else (idx q : Nat) (h : q < idx / 64 + 1) (hne : q ≠ idx / 64) : (words idx)[q]? = some (.int .u64 0) := by
  simp [words, zs, Ne.symm hne, h]

set_option maxRecDepth 100000 in
set_option maxHeartbeats 40000000 in
theorem law_good (len cap b off : Nat) (hlen : 0 < len) (hl2 : len ≤ 1024) (a1 a2 : Int) (x0 x1 x2 x3 : Int) (ix key : Nat → Int) (dn : Nat → Bool) (hl pr : Nat → Int) (W : World) (hin : IsRuns W b off len ix key dn hl pr) (y0 : 0 ≤ x0 ∧ x0 ≤ 255) (y1 : 0 ≤ x1 ∧ x1 ≤ 255) (y2 : 0 ≤ x2 ∧ x2 ≤ 255) (y3 : 0 ≤ x3 ∧ x3 ≤ 255) (ya : 0 ≤ a1 ∧ a1 ≤ 255) (yb : 0 ≤ a2 ∧ a2 ≤ 65535) :
    Calls Yba.prog 5 #[.slice (some ⟨b, off, none⟩) len cap, .int .u8 a1, .int .u16 a2, .agg #[.int .u8 x0, .int .u8 x1, .int .u8 x2, .int .u8 x3]] W fun e W' => e = .returned (.bool true) ∧ Below W.heap.size W W' := by
  have hz : ((len : Int) == 0) = false := beq_eq_false_iff_ne.2 (by omega)
  obtain ⟨i0, hi, hz0, hz1, hz2⟩ := info_parts Yba.info45
  go_enter Yba.func5, Yba.ntmps5
  go_wp2_with fail
  refine (new_any _).mono ?_
  rintro e W1 ⟨rfl, h1, h2, h3, h4, h5⟩
  go_wp2_with fail
  simp only [World.size_alloc, Nat.add_assoc, Nat.reduceAdd] at h1 h2 h3 h4 h5 ⊢
  go_loopw [13, 65] (fun sm i wr => ∃ (j : Nat) (s : Int) (ky nm : Nat → Nat) (hd : Nat → Int) (tb : Nat → Option Nat) (l : Nat → List Nat) (bs : List Nat) (v : Value), j ≤ len ∧ i = .int .i64 j ∧ sm = .int .i64 s ∧
      BInv W #[.int .u8 x0, .int .u8 x1, .int .u8 x2, .int .u8 x3] j s ky nm hd tb l bs v wr) (fun _ i _ => len - (intOf i).toNat)
  case atStart => exact ⟨0, 0, _, _, _, _, _, [], _, Nat.zero_le _, rfl, rfl, BInv.start W W1 _ h1 h2 h3 h4 h5⟩
  case round =>
    obtain ⟨j, s, ky, nm, hd, tb, l, bs, v, hj, rfl, rfl, hB⟩ := hrel
    by_cases hlt : j < len
    · obtain ⟨e1, e2, e3, e4, e5⟩ := hin.el j hlt
      obtain ⟨d1, d2, d3, d4, d5, d6⟩ := hin.bd j hlt
      have low := hB.low
      have g1 := (low.cell (p := ⟨b, off + j * 5, none⟩) hin.lt).trans e1
      have g2 := (low.cell (p := ⟨b, off + j * 5 + 1, none⟩) hin.lt).trans e2
      have g3 := (low.cell (p := ⟨b, off + j * 5 + 2, none⟩) hin.lt).trans e3
      have g4 := (low.cell (p := ⟨b, off + j * 5 + 3, none⟩) hin.lt).trans e4
      have g5 := (low.cell (p := ⟨b, off + j * 5 + 4, none⟩) hin.lt).trans e5
      have ck : wr.cell? ⟨W.heap.size + 2, (key j % 4).toNat, none⟩ = some (.string (ks (key j % 4).toNat)) := ks_at hB.bK _ (by omega)
      have cn : wr.cell? ⟨W.heap.size + 1, (ix j % 2).toNat, none⟩ = some (.string (nms (ix j % 2).toNat)) := nms_at hB.bN _ (by omega)
      have hsz : W.heap.size + 9 < wr.heap.size := by obtain ⟨c, hc⟩ := hB.st.bT; exact (Array.getElem?_eq_some_iff.1 hc).1
      have hs1 : W.heap.size + 1 < wr.heap.size := by omega
      have hs2 : W.heap.size + 2 < wr.heap.size := by omega
      have hs8 : W.heap.size + 8 < wr.heap.size := by omega
      have ct3 := hB.t3
      have s0 := hB.sm0
      have s1 := hB.sm1
      have hlen2 : bs.length ≤ 1024 := by have := hB.len; omega
      obtain ⟨X, hX⟩ : ∃ X, X = ((wr.alloc (.cells #[.int .u8 (ix j), .int .u8 (key j), .bool (dn j), .int .u8 (hl j), .int .u64 (pr j)] 52)).alloc (.cells (runC (W.heap.size + 9) (nms (ix j % 2).toNat) (ks (key j % 4).toNat) (dn j) (1 + hl j % 3) j (pr j)) 63)).drew := ⟨_, rfl⟩
      obtain ⟨hBX, hFX, hrn, hrB, hXs⟩ := hB.fresh (.cells #[.int .u8 (ix j), .int .u8 (key j), .bool (dn j), .int .u8 (hl j), .int .u64 (pr j)] 52) (nx := (ix j % 2).toNat) (kx := (key j % 4).toNat) (d := dn j) (hh := 1 + hl j % 3) (p := pr j) (by omega) (by omega) (by omega) (by omega) hX
      have HB := (show Hid _ from And.intro hBX (And.intro hFX hX))
      clear e1 e2 e3 e4 e5 hB hBX hFX hX
      go_wp2_with fail
      go_region
      rw [show (((wr.alloc (.cells #[.int .u8 (ix j), .int .u8 (key j), .bool (dn j), .int .u8 (hl j), .int .u64 (pr j)] 52)).alloc (.cells #[.pointer (some ⟨W.heap.size + 9, 0, none⟩), .string (nms (ix j % 2).toNat), .int .u8 0, .int .u8 0, .bool (dn j), .string ⟨#[]⟩, .int .i8 0, .int .u64 0, .string (ks (key j % 4).toNat), .string (ks (key j % 4).toNat), .slice none 0 0, .int .i64 0, .int .i64 (1 + hl j % 3), .slice none 0 0, .int .i64 j, .int .i64 0,
    .int .i64 0, .slice none 0 0, .int .i64 0, .slice none 0 0, .bool false, .pointer none, .pointer none, .pointer none, .int .u64 (pr j), .string ⟨#[]⟩] 63)).drew) = X from HB.out.2.2.symm]
      have ctX := HB.out.1.t3
      have hrowX := HB.out.1.row
      have hlX : bs.length = j := HB.out.1.len
      have HX := (show Hid _ from And.intro hlX hXs)
      have hx9 : W.heap.size + 9 < X.heap.size := by omega
      have hx1 : wr.heap.size + 1 < X.heap.size := by omega
      clear g1 g2 g3 g4 g5 ck cn ct3 hlX hXs
      go_wp2_with (at_builtin; refine wpList_append_own _ rfl _ _ 41 rfl W.heap.size 45 i0 (.pointer none) 1 8 Yba.underlying41 hi hz0 hz1 hz2 rfl (by decide) _ _ _ rfl (hrowX.alloc _) ⟨X.heap.size, 0, none⟩ 1 1 [.pointer (some ⟨wr.heap.size + 1, 0, none⟩)] rfl rfl (one_new _ _ _) (by simp [Value.oneCell']) (by unfold maxLen; omega) (by omega) (by simp; omega) ?_; intro v' w1 hown hgrow _; obtain ⟨a3, f3, pk⟩ := HB.out.1.append HB.out.2.1 hrn (by omega) hown hgrow; have HPK := (show Hid _ from pk); obtain ⟨g', cap', rfl⟩ := ownsRow_succ hown; clear hown hgrow pk)
      obtain ⟨st3, fr3, t33, row3, t43, sl3, k3, low3⟩ := HPK.out
      refine (place_st st3 (HX.out.1.symm ▸ fr3) hrn).mono ?_
      rintro e W4 ⟨rfl, hP⟩
      obtain ⟨tb', l', hB'⟩ := HB.out.1.next hrn (by omega) (show 1 ≤ 1 + hl j % 3 by omega) (by omega) st3 fr3 t33 row3 t43 sl3 k3 low3 hP
      clear st3 fr3 t33 row3 t43 sl3 k3 low3 hP HPK a3 f3 ctX hrowX
      go_wp2_with fail
      go_roundw
      case rel => exact ⟨j + 1, _, _, _, _, tb', l', _, _, by omega, by go_num, rfl, hB'⟩
      case measure => simp [intOf]; omega
    · obtain rfl : j = len := by omega
      have hM := hB.mid
      have ct3 := hB.t3
      have ct4 := hB.t4
      have fT4 : wr.frozen? ⟨W.heap.size + 9, 4, none⟩ = false := by obtain ⟨c, hc⟩ := hB.st.bT; simp [World.frozen?, hc]
      have hbl := hB.len
      have ho : ∃ g cap', v = .slice (some ⟨g, 0, none⟩) j cap' := by have := owns_succ hB.row (by omega); rw [hbl] at this; exact this
      obtain ⟨g, capv, rfl⟩ := ho
      have s0 := hB.sm0
      have s1 := hB.sm1
      have HBL := (show Hid _ from hbl)
      have Hin := (show Hid _ from hin)
      clear hB hlt hbl hin h1 h2 h3 h4 h5 hz
      go_wp2_with fail
      go_loopw [20] (fun i wr => ∃ (q : Nat) (nl : Nat → Option Nat), q ≤ 4 ∧ i = .int .i64 q ∧
        MInv W #[.int .u8 x0, .int .u8 x1, .int .u8 x2, .int .u8 x3] s ky nm hd tb l bs (.slice (some ⟨g, 0, none⟩) j capv) nl wr) (fun i _ => 4 - (intOf i).toNat)
      case atStart => exact ⟨0, _, by omega, rfl, hM⟩
      case round =>
        obtain ⟨q, nl, hq, rfl, hM2⟩ := hrel
        by_cases hq4 : q < 4
        · have cx := nx_at hM2.bX q hq4
          have bx := nx_bd y0 y1 y2 y3 q hq4
          generalize nx4 x0 x1 x2 x3 q = y at cx bx
          obtain ⟨yn, rfl⟩ := Int.eq_ofNat_of_zero_le bx.1
          have hyc : ((yn % (j + 1) : Nat) : Int) = (yn : Int) % ((j : Int) + 1) := rfl
          by_cases hy : yn % (j + 1) < j
          · have hyI : (yn : Int) % ((j : Int) + 1) < (j : Int) := by omega
            have hy0 : 0 ≤ (yn : Int) % ((j : Int) + 1) := by omega
            have hyt : ((yn : Int) % ((j : Int) + 1)).toNat = yn % (j + 1) := by omega
            obtain ⟨bb, hbb⟩ : ∃ x, bs[yn % (j + 1)]? = some x := ⟨_, List.getElem?_eq_getElem (by rw [HBL.out]; exact hy)⟩
            have hbm : bb ∈ bs := List.mem_of_getElem? hbb
            have hbI := hM2.st.runs bb hbm
            have cg : wr.cell? ⟨g, ((yn : Int) % ((j : Int) + 1)).toNat, none⟩ = some (.pointer (some ⟨bb, 0, none⟩)) := by
              rw [hyt]; have := hM2.row; rw [HBL.out] at this; exact (this.cellAt _ (by omega)).trans (by simp [ptrs, hbb])
            have cb1 := hbI.c1
            obtain ⟨z1, z2, z3⟩ := hM2.slots q hq4
            obtain ⟨cT, hcT⟩ := hM2.st.bT
            have fT : ∀ o, wr.frozen? ⟨W.heap.size + 9, o, none⟩ = false := fun o => by simp [World.frozen?, hcT]
            have fa := fT (13 + q * 3)
            have fb := fT (13 + q * 3 + 1)
            have fc := fT (13 + q * 3 + 2)
            have cT3 := hM2.t3
            have HS := (show Hid _ from hM2.set hq4 hbm)
            clear fT hcT hbI hbb hyt hyc hy ct3 ct4 fT4
            go_wp2_with fail
            go_region
            all_goals
              go_wp2_with fail
              go_roundw
              case rel => exact ⟨q + 1, _, by omega, by go_num, HS.out⟩
              case measure => simp [intOf]; omega
          · as_aux_lemma =>
            have hyI : ¬ (yn : Int) % ((j : Int) + 1) < (j : Int) := by omega
            clear hyc ct3 ct4 fT4
            go_wp2_with fail
            go_roundw
            case rel => exact ⟨q + 1, nl, by omega, by go_num, hM2⟩
            case measure => simp [intOf]; omega
        · as_aux_lemma =>
          obtain rfl : q = 4 := by omega
          obtain ⟨an, rfl⟩ := Int.eq_ofNat_of_zero_le ya.1
          obtain ⟨dn2, rfl⟩ := Int.eq_ofNat_of_zero_le yb.1
          have hpl : an % j < j := Nat.mod_lt _ (by omega)
          have hpc : ((an % j : Nat) : Int) = (an : Int) % (j : Int) := rfl
          have hpI : (an : Int) % (j : Int) < (j : Int) := by omega
          have hp0 : 0 ≤ (an : Int) % (j : Int) := by omega
          have hpt : ((an : Int) % (j : Int)).toNat = an % j := by omega
          obtain ⟨r, hr⟩ : ∃ x, bs[an % j]? = some x := ⟨_, List.getElem?_eq_getElem (by rw [HBL.out]; exact hpl)⟩
          have cg : wr.cell? ⟨g, an % j, none⟩ = some (.pointer (some ⟨r, 0, none⟩)) := by
            have := hM2.row; rw [HBL.out] at this; exact (this.cellAt _ (by omega)).trans (by simp [ptrs, hr])
          have cT3 := hM2.t3
          have HR := (show Hid _ from And.intro hr (And.intro hpt hpc))
          have HND := (show Hid bs.Nodup from hM2.st.nd)
          clear hr hpt hpc ct3 ct4 fT4 hM hq hq4
          go_wp2_with fail
          have hro := hM2.row
          rw [HBL.out] at hro
          have HC := (clone_any bs _ _ wr (by rw [HBL.out]; omega) (by rw [HBL.out]; omega) hM2.row)
          rw [HBL.out] at HC
          refine HC.mono ?_
          rintro e W2 ⟨vc, rfl, hrc, hlc⟩
          have hM3 := hM2.grow (fun b hb => hlc.block b hb) (hlc.mono hM2.low.size)
          obtain ⟨gc, cc, rfl⟩ := owns_succ hrc (by omega)
          have hgc := hrc.lt gc rfl
          have hgg : g ≠ gc := by
            have := (hM2.row.lt g rfl).2; have := hgc.1; omega
          have hgn : W.heap.size + 9 < gc := by
            obtain ⟨cT, hcT⟩ := hM2.st.bT
            have := (Array.getElem?_eq_some_iff.1 hcT).1; have := hgc.1; omega
          have HGG := (show Hid _ from And.intro hgg hgn)
          clear hgg hgn
          have cT3 := hM3.t3
          obtain ⟨p0, p1, p2⟩ := hM3.slots 0 (by omega)
          obtain ⟨p3, p4, p5⟩ := hM3.slots 1 (by omega)
          obtain ⟨p6, p7, p8⟩ := hM3.slots 2 (by omega)
          obtain ⟨p9, p10, p11⟩ := hM3.slots 3 (by omega)
          simp only [Nat.reduceMul, Nat.reduceAdd] at p0 p1 p2 p3 p4 p5 p6 p7 p8 p9 p10 p11
          have hrm : r ∈ bs := List.mem_of_getElem? HR.out.1
          have hrI := hM3.st.runs r hrm
          have r12 := hrI.c12
          have r1 := hrI.c1
          have H3 := (show Hid _ from hM3)
          have hrl : r < W2.heap.size := by obtain ⟨cr, hcr⟩ := hrI.node.blkc; exact (Array.getElem?_eq_some_iff.1 hcr).1
          have hdx : ∃ idx : Nat, idx ≤ 1023 ∧ (dn2 : Int) % 1024 = (idx : Int) := ⟨dn2 % 1024, by omega, by omega⟩
          obtain ⟨idx, hidx, hdx⟩ := hdx
          have HC2 := (show Hid _ from hrc)
          have hrn := hrI.nm2
          have hnb : ∀ i, i < 4 → ∀ b, nl i = some b → nm b < 2 := fun i hi b hb => (hM3.st.runs b (hM3.nls i hi b hb)).nm2
          have HNB := (show Hid _ from hnb)
          clear hM2 hM3 hro HC hrI hlc hrc hnb
          go_upto_block 4 with fail
          clear hdx
          generalize hW3 : W2.alloc _ = W3
          have hgs : W3.heap[W2.heap.size]? = some (slotsBlk nm nl) := by rw [← hW3]; exact World.alloc_heap_new _ _
          have hk3 : ∀ b, b < W2.heap.size → W3.heap[b]? = W2.heap[b]? := by intro b hb; rw [← hW3]; exact Below.heap_alloc _ _ _ hb
          have hM3 := H3.out.grow hk3 (by rw [← hW3]; exact (Below.refl _ _).alloc H3.out.low.size _)
          have hrc3 := owns_of_block HC2.out (fun g' e => hk3 g' (by cases e; exact hgc.2))
          generalize hgsn : W2.heap.size = gs at hgs
          have r1 := (hM3.st.runs r hrm).c1
          have hgsl := slots_at hgs
          have HF3 := (show Hid _ from And.intro hM3 (And.intro hrc3 hgs))
          clear hM3 hrc3 hgs hk3 H3 HC2 hW3 p0 p1 p2 p3 p4 p5 p6 p7 p8 p9 p10 p11 r12 cT3 hrl cg
          go_cut [28] (fun p wx => ∃ o, p = .int .i64 (pint o) ∧ First nm nl (nm r) o ∧ ∃ nq, wx = W3.drewN nq)
          case first =>
            as_aux_lemma =>
            go_wp2_with fail
            go_loopw [28, 29] (fun p i wx => ∃ s nq : Nat, s ≤ 4 ∧ p = .int .i64 (-1) ∧ i = .int .i64 s ∧ wx = W3.drewN nq ∧ Hid (∀ s', s' < s → ¬ hit nm nl (nm r) s')) (fun _ i _ => 4 - (intOf i).toNat)
            case atStart => exact ⟨0, 0, by omega, rfl, rfl, rfl, fun s' h => by omega⟩
            case round =>
              obtain ⟨q, nq, hs4, rfl, rfl, rfl, H⟩ := hrel
              by_cases hlt : q < 4
              · obtain ⟨c1, c2, c3⟩ := hgsl q hlt
                clear hgsl
                by_cases hh : hit nm nl (nm r) q
                · as_aux_lemma =>
                  have HH := (show Hid _ from hh)
                  obtain ⟨bq, hb, hbn⟩ := hh
                  rw [hb] at c1 c2
                  simp only [nix, pa, hbn] at c1 c2
                  clear hb hbn
                  go_wp2_with fail
                  go_quiet (fail)
                  go_wp2
                  go_meet
                  exact ⟨some q, rfl, ⟨hlt, HH.out, H.out⟩, _, World.drewN_drewN ..⟩
                · as_aux_lemma =>
                  have e1 := nix_miss hrn (HNB.out q hlt) hh
                  have HH := (show Hid _ from hh)
                  clear hh
                  go_wp2_with fail
                  go_quiet (fail)
                  go_wp2
                  go_roundw
                  case rel =>
                    refine ⟨q + 1, _, by omega, rfl, by go_num, rfl, fun s' h' => ?_⟩
                    by_cases e : s' = q
                    · subst e; exact HH.out
                    · exact H.out s' (by omega)
                  case measure => simp [intOf]; omega
              · go_wp2
                go_meet
                exact ⟨none, rfl, fun s' h' => H.out s' (by omega), _, rfl⟩
          case rest =>
          as_aux_lemma =>
          obtain ⟨o, rfl, ho, nq, rfl⟩ := hcut
          go_wp2_with fail
          have hM4 := HF3.out.1.grow (W' := W3.drewN nq) (fun _ _ => rfl) (below_drewN (Below.refl _ _) nq)
          have hrc4 : (W3.drewN nq).ownsRow wr.heap.size 45 1 (.slice (some ⟨gc, 0, none⟩) j cc) j (ptrs bs) := owns_of_block HF3.out.2.1 (fun _ _ => rfl)
          have hgs4 : (W3.drewN nq).heap[gs]? = some (slotsBlk nm nl) := HF3.out.2.2
          generalize W3.drewN nq = W4 at hM4 hrc4 hgs4 ⊢
          refine (leave_mid hM4 hidx HR.out.1 (by rw [HBL.out]; omega) s0 (by omega)).mono ?_
          rintro e W5 ⟨rfl, cur, nl2, tb2, l2, v2, hF, hwent⟩
          obtain ⟨g5, cap5, c13, hw5⟩ := hF.c13
          have c12 := hF.c12
          have t4 := hF.t4
          have t3 := hF.t3
          have HF := (show Hid _ from And.intro hF (And.intro hwent (And.intro hM4 (And.intro hrc4 (And.intro hgs4 ho)))))
          clear hF hwent hM4 hrc4 hgs4 ho HF3 hgsl r1
          go_wp2_with fail
          go_loopw [232] (fun i wx => ∃ q : Nat, q ≤ idx / 64 + 1 ∧ i = .int .i64 q ∧ wx = W5) (fun i _ => idx / 64 + 1 - (intOf i).toNat)
          case atStart => exact ⟨0, Nat.zero_le _, rfl, rfl⟩
          case round =>
            obtain ⟨q, hq, rfl, rfl⟩ := hrel
            by_cases hlt : q < idx / 64 + 1
            · by_cases hqe : q = idx / 64
              · as_aux_lemma =>
                subst hqe
                have cw : wr.cell? ⟨g5, idx / 64, none⟩ = some (.int .u64 (IntKind.u64.wrap (2 ^ (idx % 64)))) := (hw5.cellAt _ (by omega)).trans (words_here idx)
                go_wp2_with fail
                go_roundw
                case rel => exact ⟨idx / 64 + 1, by omega, by go_num, trivial⟩
                case measure => simp [intOf]; omega
              · as_aux_lemma =>
                have cw : wr.cell? ⟨g5, q, none⟩ = some (.int .u64 0) := (hw5.cellAt _ (by omega)).trans (words_else idx q hlt hqe)
                have hqi : ¬ (q : Int) = (idx : Int) / 64 := by omega
                go_wp2_with fail
                go_roundw
                case rel => exact ⟨q + 1, by omega, by go_num, trivial⟩
                case measure => simp [intOf]; omega
            · as_aux_lemma =>
              have hq' : ¬ (q : Int) < (idx : Int) / 64 + 1 := by omega
              obtain ⟨hF, hwent, hM4, hrc4, hgs4, ho⟩ := HF.out
              have hh1 := (hM4.st.runs r hrm).h1
              have hh3 := (hM4.st.runs r hrm).h3
              have szw := hM4.st
              have hpos := HR.out.1
              obtain ⟨hgg, hgn⟩ := HGG.out
              have hF2 := hF.two hwent hpos hM4 hrc4 hgn hgg hgs4
              have hrc5 := owns_of_block (w' := wr) hrc4 (fun g' e => by
                obtain ⟨cc, hcc⟩ := row_blk hrc4 e
                obtain rfl : gc = g' := (by simpa [Value.ownBlock] using e)
                exact hF.keep gc cc 45 hcc (by decide) (by decide) (by decide) (by simp [Value.ownBlock, hgg]))
              have hcl : cur.length = if hd r = 1 then j - 1 else j := by
                rcases hwent with ⟨h2, rfl, _⟩ | ⟨h1, last, _, rfl, _⟩
                · rw [if_neg (by omega), HBL.out]
                · rw [if_pos h1, swap_len, HBL.out]
              have HCL := (show Hid _ from hcl)
              clear hcl
              have HF2 := (show Hid _ from And.intro hF2 (And.intro hwent (And.intro hrc5 ho)))
              clear hF hwent hM4 hrc4 hgs4 ho hF2 hpos hlt hq hrc5 hgg hgn
              clear HF szw c13 hw5
              go_upto_if 271 with fail
              generalize hzz : (hd r - 1 == 0) = z
              go_cut [34] (fun want wx => (∃ B, wx.ownsRow B 45 1 want cur.length (ptrs cur)) ∧ Fin2 W ky nm gs gc bs cur nl nl2 tb2 l2 v2 wx)
              case first =>
                as_aux_lemma =>
                obtain ⟨hF2, hwent, hrc5, ho⟩ := HF2.out
                rcases hwent with ⟨h2, rfl, rfl, rfl⟩ | ⟨h1, last, hlast, rfl, hso, gq, capq, hvv, rfl⟩
                · as_aux_lemma =>
                  obtain rfl : z = false := by rw [← hzz]; simp; omega
                  go_wp2_with fail
                  go_meet
                  exact ⟨⟨_, by rw [HBL.out]; exact hrc5⟩, hF2⟩
                · as_aux_lemma =>
                  obtain rfl : z = true := by rw [← hzz]; simp; omega
                  have hbl := HBL.out
                  have cl : wr.cell? ⟨gc, j - 1, none⟩ = some (.pointer (some ⟨last, 0, none⟩)) := (hrc5.cellAt _ (by omega)).trans (by rw [← hbl]; simp [ptrs, hlast])
                  have cp : wr.cell? ⟨gc, an % j, none⟩ = some (.pointer (some ⟨r, 0, none⟩)) := (hrc5.cellAt _ (by omega)).trans (by simp [ptrs, HR.out.1])
                  have fp : wr.frozen? ⟨gc, an % j, none⟩ = false := by obtain ⟨c, hc⟩ := hF2.gcb; simp [World.frozen?, hc]
                  have hcap := own_cap hrc5
                  have HC3 := (show Hid _ from And.intro hrc5 (And.intro hF2 hlast))
                  clear hrc5 hF2 hlast hso hvv ho hzz hbl h1
                  go_wp2_with fail
                  go_meet
                  have hw := want_swap (pos := an % j) (last := last) HC3.out.1 HBL.out hlen
                  exact ⟨⟨_, by rw [swap_len, HBL.out]; exact hw⟩, HC3.out.2.1.store _ _⟩
              case rest =>
              as_aux_lemma =>
              obtain ⟨⟨B6, hwr6⟩, hF6⟩ := hcut
              have t3 := hF6.t3
              have HE := (show Hid (Calls Yba.prog 13 #[v2, u34] wc fun e W' => e = .returned (.bool true) ∧ ∃ nq, W' = wc.drewN nq) from equal_any cur _ _ v2 u34 wc (by rw [HCL.out]; split <;> omega) hF6.row hwr6)
              have H6 := (show Hid _ from hF6)
              clear hF6 hwr6 c12 t4
              go_wp2_with fail
              refine HE.out.mono ?_
              rintro e W7 ⟨rfl, nq7, rfl⟩
              have hF7 := H6.out.grow (W' := wc.drewN nq7) (fun _ _ => rfl) (below_drewN (Below.refl _ _) nq7)
              generalize wc.drewN nq7 = W7 at hF7 ⊢
              have t3 := hF7.t3
              have H7 := (show Hid _ from hF7)
              obtain ⟨a7, c7, rfl⟩ : ∃ a c, v2 = .slice a cur.length c := by
                rcases hF7.row.2 with ⟨rfl, h0⟩ | ⟨g', cap', cur', rfl, _⟩
                · exact ⟨none, 0, by rw [h0]⟩
                · exact ⟨_, _, rfl⟩
              have hcl2 : cur.length ≤ 1024 := by rw [HCL.out]; split <;> omega
              clear H6 HE hF7
              go_wp2_with fail
              go_loopw [297] (fun i wx => ∃ q : Nat, q ≤ cur.length ∧ i = .int .i64 q ∧ wx = W7) (fun i _ => cur.length - (intOf i).toNat)
              case atStart => exact ⟨0, Nat.zero_le _, rfl, rfl⟩
              case round =>
                obtain ⟨q, hq, rfl, rfl⟩ := hrel
                by_cases hlt : q < cur.length
                · as_aux_lemma =>
                  obtain ⟨g7, cap7, hv7⟩ := owns_succ H7.out.row (by omega)
                  simp at hv7
                  obtain ⟨rfl, rfl⟩ := hv7
                  have cb : wr.cell? ⟨g7, q, none⟩ = some (.pointer (some ⟨cur[q], 0, none⟩)) := (H7.out.row.cellAt q (by omega)).trans (ptrs_at cur q hlt)
                  have ca := H7.out.at' q cur[q] (by simp [hlt])
                  generalize cur[q] = bq at cb ca
                  go_wp2_with fail
                  go_roundw
                  case rel => exact ⟨q + 1, by omega, by go_num, trivial⟩
                  case measure => simp [intOf]; omega
                · as_aux_lemma =>
                  clear hq
                  go_wp2_with fail
                  go_loopw [38] (fun i wx => ∃ q : Nat, q ≤ 4 ∧ i = .int .i64 q ∧ Hid (Fin2 W ky nm gs gc bs cur nl nl2 tb2 l2 (.slice a7 cur.length c7) wx)) (fun i _ => 4 - (intOf i).toNat)
                  case atStart => exact ⟨0, Nat.zero_le _, rfl, H7⟩
                  case round =>
                    clear H7
                    obtain ⟨q6, hq, rfl, H8⟩ := hrel
                    by_cases hq4 : q6 < 4
                    · as_aux_lemma =>
                      obtain ⟨p1, p2, p3⟩ := slots_at H8.out.sl q6 hq4
                      obtain ⟨k1, k2, k3⟩ := H8.out.slots q6 hq4
                      have hse := slot_exp HF2.out.2.1 HF2.out.2.2.2 q6
                      have hsz : gs < wr.heap.size := (Array.getElem?_eq_some_iff.1 H8.out.sl).1
                      have hTz : W.heap.size + 9 < wr.heap.size := by obtain ⟨c, hc⟩ := H8.out.gcb; exact Nat.lt_trans H8.out.gcn (Array.getElem?_eq_some_iff.1 hc).1
                      have e45 := eqIn45
                      have e42 := eqIn42
                      have HSE := (show Hid _ from hse)
                      clear hse
                      cases z with
                      | false =>
                        as_aux_lemma =>
                        have e := HSE.out.2 (fun e => by simp [e] at hzz)
                        rw [e] at k1 k2
                        simp only [ptr] at k2
                        clear e hzz
                        go_wp2_with fail
                        go_quiet (fail)
                        go_wp2_with fail
                        go_roundw
                        case rel => exact ⟨q6 + 1, by omega, by go_num, H8.out.grow (fun b hb => Below.heap_alloc _ _ _ hb) (below_drewN ((Below.refl _ _).alloc H8.out.low.size _) _)⟩
                        case measure => simp [intOf]; omega
                      | true =>
                        have hh1' : hd r = 1 := by simp at hzz; omega
                        by_cases hpo : pint o = (q6 : Int)
                        · have hpb : ((q6 : Int) == pint o) = true := by simp [hpo]
                          have hpb2 : (q6 : Int) = pint o := hpo.symm
                          by_cases hnr : nl q6 = some r
                          · as_aux_lemma =>
                            have e := HSE.out.1 hh1' hpo hnr
                            rw [e] at k1 k2
                            rw [hnr] at p1 p2
                            simp only [nix, pa, ptr] at k1 k2 p1 p2
                            have heq := eql_same ⟨r, 0, none⟩
                            clear e hzz hh1' hpo hnr hpb2
                            go_wp2_with fail
                            go_quiet (fail)
                            go_wp2_with fail
                            go_roundw
                            case rel => exact ⟨q6 + 1, by omega, by go_num, H8.out.grow (fun b hb => Below.heap_alloc _ _ _ hb) (below_drewN ((Below.refl _ _).alloc H8.out.low.size _) _)⟩
                            case measure => simp [intOf]; omega
                          · as_aux_lemma =>
                            have e := HSE.out.2 (fun _ _ => hnr)
                            rw [e] at k1 k2
                            simp only [ptr] at k2
                            cases hnl : nl q6 with
                            | none =>
                              as_aux_lemma =>
                              rw [hnl] at p1 p2 k1 k2
                              simp only [nix, pa] at k1 k2 p1 p2
                              have heq : ∀ a x, (binOp .eql 45 (.pointer none) (.pointer (some a))).run Yba.prog x = .ok (.bool false) x := eql_nil_left
                              clear e hzz hh1' hpo hnr hpb2 hnl
                              go_wp2_with fail
                              go_quiet (fail)
                              go_wp2_with fail
                              go_roundw
                              case rel => exact ⟨q6 + 1, by omega, by go_num, H8.out.grow (fun b hb => Below.heap_alloc _ _ _ hb) (below_drewN ((Below.refl _ _).alloc H8.out.low.size _) _)⟩
                              case measure => simp [intOf]; omega
                            | some b8 =>
                              as_aux_lemma =>
                              rw [hnl] at p1 p2 k1 k2 hnr
                              simp only [nix, pa] at k1 k2 p1 p2
                              have hbr : b8 ≠ r := fun k => hnr (by rw [k])
                              have hb63 := (H8.out.node b8 (H8.out.nls q6 hq4 b8 hnl)).1.blkc
                              have hr63 := (H8.out.node r hrm).1.blkc
                              have heq : ∀ x, (binOp .eql 45 (.pointer (some ⟨b8, 0, none⟩)) (.pointer (some ⟨r, 0, none⟩))).run Yba.prog (wr.alloc x) = .ok (.bool false) (wr.alloc x) := by
                                intro x
                                obtain ⟨c1, hc1⟩ := hb63
                                obtain ⟨c2, hc2⟩ := hr63
                                exact eql_other hbr ⟨c1, (Below.heap_alloc _ _ _ (Array.getElem?_eq_some_iff.1 hc1).1).trans hc1⟩ ⟨c2, (Below.heap_alloc _ _ _ (Array.getElem?_eq_some_iff.1 hc2).1).trans hc2⟩
                              clear e hzz hh1' hpo hnr hpb2 hnl hb63 hr63
                              go_wp2_with fail
                              go_quiet (fail)
                              go_wp2_with fail
                              go_roundw
                              case rel => exact ⟨q6 + 1, by omega, by go_num, H8.out.grow (fun b hb => Below.heap_alloc _ _ _ hb) (below_drewN ((Below.refl _ _).alloc H8.out.low.size _) _)⟩
                              case measure => simp [intOf]; omega
                        · as_aux_lemma =>
                          have e := HSE.out.2 (fun _ k => absurd k hpo)
                          have hpb : ((q6 : Int) == pint o) = false := by simp; omega
                          rw [e] at k1 k2
                          simp only [ptr] at k2
                          clear e hzz hh1' hpo
                          go_wp2_with fail
                          go_quiet (fail)
                          go_wp2_with fail
                          go_roundw
                          case rel => exact ⟨q6 + 1, by omega, by go_num, H8.out.grow (fun b hb => Below.heap_alloc _ _ _ hb) (below_drewN ((Below.refl _ _).alloc H8.out.low.size _) _)⟩
                          case measure => simp [intOf]; omega
                    · as_aux_lemma =>
                      have bN := H8.out.bN
                      have n0 : wr.cell? ⟨W.heap.size + 1, 0, none⟩ = some (.string (nms 0)) := by simp [World.cell?, bN]
                      have n1 : wr.cell? ⟨W.heap.size + 1, 1, none⟩ = some (.string (nms 1)) := by simp [World.cell?, bN]
                      clear bN
                      go_wp2_with fail
                      go_loopw [340] (fun i wx => ∃ q : Nat, q ≤ 2 ∧ i = .int .i64 q ∧ Hid (Fin2 W ky nm gs gc bs cur nl nl2 tb2 l2 (.slice a7 cur.length c7) wx)) (fun i _ => 2 - (intOf i).toNat)
                      case atStart => exact ⟨0, Nat.zero_le _, rfl, H8⟩
                      case round =>
                      clear H8 n0 n1
                      obtain ⟨q7, hq7, rfl, H9⟩ := hrel
                      by_cases hq2 : q7 < 2
                      · have t3 := H9.out.t3
                        obtain rfl | rfl : q7 = 0 ∨ q7 = 1 := by omega
                        · as_aux_lemma =>
                          have hν : 0 < 2 := by omega
                          have hix := fun w => (index_two (nms 0) (nms 1) w).1
                          go_wp2_with fail
                          go_loopw [42, 348] (fun c i wx => ∃ k cN : Nat, k ≤ cur.length ∧ i = .int .i64 k ∧ c = .int .i64 cN ∧ Hid (cN = ((cur.take k).filter (fun b => decide (nm b = 0))).length ∧ wx = wr)) (fun _ i _ => cur.length - (intOf i).toNat)
                          case atStart => exact ⟨0, 0, Nat.zero_le _, rfl, rfl, by simp, rfl⟩
                          case round =>
                            obtain ⟨k, cN, hk, rfl, rfl, HK⟩ := hrel
                            obtain rfl := HK.out.2
                            have HCN := (show Hid _ from HK.out.1)
                            have hcb : cN ≤ k := by rw [HCN.out]; exact Nat.le_trans (List.length_filter_le _ _) (by simp; omega)
                            clear HK
                            by_cases hlt : k < cur.length
                            · as_aux_lemma =>
                              obtain ⟨g7, cap7, hv7⟩ := owns_succ H9.out.row (by omega)
                              simp at hv7
                              obtain ⟨rfl, rfl⟩ := hv7
                              have cb : wr.cell? ⟨g7, k, none⟩ = some (.pointer (some ⟨cur[k], 0, none⟩)) := (H9.out.row.cellAt k (by omega)).trans (ptrs_at cur k hlt)
                              have hbb := H9.out.sub cur[k] (List.getElem_mem hlt)
                              have ci := (H9.out.node cur[k] hbb).2
                              have hn2 := H9.out.nm2 cur[k] hbb
                              by_cases hnb : nm cur[k] = 0
                              · as_aux_lemma =>
                                have HX := (show Hid _ from (take_yes (p := fun b => decide (nm b = 0)) hlt (by simp [hnb])))
                                rw [hnb] at ci
                                clear hnb hbb hn2
                                generalize cur[k] = bq at cb ci
                                go_wp2_with fail
                                go_roundw
                                case rel => exact ⟨k + 1, cN + 1, by omega, by go_num, by go_num, by rw [HX.out, HCN.out], trivial⟩
                                case measure => simp [intOf]; omega
                              · as_aux_lemma =>
                                have HX := (show Hid _ from (take_no (p := fun b => decide (nm b = 0)) hlt (by simp [hnb])))
                                have hne := nms_ne hn2 hν hnb
                                have hneb : ((nms (nm cur[k])).toList == (nms 0).toList) = false := by simp [hne]
                                clear hnb hbb hn2 hne
                                generalize cur[k] = bq at cb ci hneb
                                go_wp2_with fail
                                go_roundw
                                case rel => exact ⟨k + 1, cN, by omega, by go_num, rfl, by rw [HX.out, HCN.out], trivial⟩
                                case measure => simp [intOf]; omega
                            · as_aux_lemma =>
                              obtain rfl : k = cur.length := by omega
                              have hcN : cN = (l2 0).length := by
                                rw [HCN.out, List.take_length]; exact ((H9.out.perm 0 hν).length_eq).symm
                              have hmem : r ∈ l2 0 ↔ r ∈ cur ∧ nm r = 0 := by rw [(H9.out.perm 0 hν).mem_iff, List.mem_filter]; simp
                              have hcur := went_mem HF2.out.2.1 HR.out.1 HND.out
                              have cM := H9.out.cM
                              have lk := (lookup_any H9.out.map hν).2
                              have cri := (H9.out.node r hrm).2
                              have HCN2 := (show Hid _ from hcN)
                              have HME := (show Hid _ from And.intro hmem hcur)
                              clear hcN hmem hcur HCN hlt hk
                              rcases H9.out.tree 0 hν with ⟨htb, hl0⟩ | ⟨t, root, n, htb, hbx, htr⟩
                              · as_aux_lemma =>
                                rw [htb] at lk
                                simp only [ptr, pa, Option.isSome] at lk
                                obtain rfl : cN = 0 := by rw [HCN2.out, hl0]; rfl
                                clear htb hl0 HCN2
                                go_wp2_with fail
                                go_roundw
                                case rel => exact ⟨1, by omega, rfl, H9⟩
                                case measure => simp [intOf]
                              · as_aux_lemma =>
                                rw [htb] at lk
                                simp only [ptr, pa, Option.isSome] at lk
                                have hroot := htr.root_mem
                                have hc0 : ¬ (cN : Int) = 0 := by
                                  have := List.length_pos_of_mem hroot; rw [← HCN2.out] at this; omega
                                have hc1 : ((cN : Int) == 0) = false := by simp; omega
                                have ct : wr.cell? ⟨t, 0, none⟩ = some (.pointer (some ⟨root, 0, none⟩)) := by
                                  have hbx' : wr.heap[t]? = some (.cells #[ptr (some root)] 90 (0, 0)) := hbx
                                  simp [World.cell?, hbx', ptr, pa]
                                have HCA := (show Hid _ from count_any ky r n _ _ wr htr (by rw [← HCN2.out]; omega) (fun x hx => (H9.out.node x (H9.out.sub x (List.mem_filter.1 ((H9.out.perm 0 hν).mem_iff.1 hx)).1)).1) (H9.out.node r hrm).1.blkc)
                                clear htb hbx htr hroot
                                go_wp2_with fail
                                refine (show Calls _ _ _ _ _ from HCA.out).mono ?_
                                rintro e W9 ⟨rfl, rfl⟩
                                rw [← HCN2.out]
                                clear HCA lk
                                by_cases hrl : r ∈ l2 0
                                · as_aux_lemma =>
                                  obtain ⟨hrc, hrn0⟩ := HME.out.1.1 hrl
                                  have hz1 := HME.out.2.1 hrc
                                  obtain rfl : z = false := by rw [← hzz]; simp; omega
                                  rw [hrn0] at cri
                                  clear hrn0 hz1 hzz hrc HME
                                  go_wp2_with fail
                                  go_roundw
                                  case rel => exact ⟨1, by omega, rfl, H9⟩
                                  case measure => simp [intOf]
                                · by_cases hrn0 : nm r = 0
                                  · as_aux_lemma =>
                                    have hz1 : hd r = 1 := by
                                      false_or_by_contra; exact hrl (HME.out.1.2 ⟨HME.out.2.2 (by assumption), hrn0⟩)
                                    obtain rfl : z = true := by rw [← hzz]; simp [hz1]
                                    rw [hrn0] at cri
                                    clear hrn0 hz1 hzz HME
                                    go_wp2_with fail
                                    go_roundw
                                    case rel => exact ⟨1, by omega, rfl, H9⟩
                                    case measure => simp [intOf]
                                  · as_aux_lemma =>
                                    have hne := nms_ne hν hrn (Ne.symm hrn0)
                                    have hneb : ((nms 0).toList == (nms (nm r)).toList) = false := by simp [hne]
                                    clear hrn0 HME hne
                                    go_wp2_with fail
                                    go_roundw
                                    case rel => exact ⟨1, by omega, rfl, H9⟩
                                    case measure => simp [intOf]
                        · as_aux_lemma =>
                          have hν : 1 < 2 := by omega
                          have hix := fun w => (index_two (nms 0) (nms 1) w).2
                          go_wp2_with fail
                          go_loopw [42, 348] (fun c i wx => ∃ k cN : Nat, k ≤ cur.length ∧ i = .int .i64 k ∧ c = .int .i64 cN ∧ Hid (cN = ((cur.take k).filter (fun b => decide (nm b = 1))).length ∧ wx = wr)) (fun _ i _ => cur.length - (intOf i).toNat)
                          case atStart => exact ⟨0, 0, Nat.zero_le _, rfl, rfl, by simp, rfl⟩
                          case round =>
                            obtain ⟨k, cN, hk, rfl, rfl, HK⟩ := hrel
                            obtain rfl := HK.out.2
                            have HCN := (show Hid _ from HK.out.1)
                            have hcb : cN ≤ k := by rw [HCN.out]; exact Nat.le_trans (List.length_filter_le _ _) (by simp; omega)
                            clear HK
                            by_cases hlt : k < cur.length
                            · as_aux_lemma =>
                              obtain ⟨g7, cap7, hv7⟩ := owns_succ H9.out.row (by omega)
                              simp at hv7
                              obtain ⟨rfl, rfl⟩ := hv7
                              have cb : wr.cell? ⟨g7, k, none⟩ = some (.pointer (some ⟨cur[k], 0, none⟩)) := (H9.out.row.cellAt k (by omega)).trans (ptrs_at cur k hlt)
                              have hbb := H9.out.sub cur[k] (List.getElem_mem hlt)
                              have ci := (H9.out.node cur[k] hbb).2
                              have hn2 := H9.out.nm2 cur[k] hbb
                              by_cases hnb : nm cur[k] = 1
                              · as_aux_lemma =>
                                have HX := (show Hid _ from (take_yes (p := fun b => decide (nm b = 1)) hlt (by simp [hnb])))
                                rw [hnb] at ci
                                clear hnb hbb hn2
                                generalize cur[k] = bq at cb ci
                                go_wp2_with fail
                                go_roundw
                                case rel => exact ⟨k + 1, cN + 1, by omega, by go_num, by go_num, by rw [HX.out, HCN.out], trivial⟩
                                case measure => simp [intOf]; omega
                              · as_aux_lemma =>
                                have HX := (show Hid _ from (take_no (p := fun b => decide (nm b = 1)) hlt (by simp [hnb])))
                                have hne := nms_ne hn2 hν hnb
                                have hneb : ((nms (nm cur[k])).toList == (nms 1).toList) = false := by simp [hne]
                                clear hnb hbb hn2 hne
                                generalize cur[k] = bq at cb ci hneb
                                go_wp2_with fail
                                go_roundw
                                case rel => exact ⟨k + 1, cN, by omega, by go_num, rfl, by rw [HX.out, HCN.out], trivial⟩
                                case measure => simp [intOf]; omega
                            · as_aux_lemma =>
                              obtain rfl : k = cur.length := by omega
                              have hcN : cN = (l2 1).length := by
                                rw [HCN.out, List.take_length]; exact ((H9.out.perm 1 hν).length_eq).symm
                              have hmem : r ∈ l2 1 ↔ r ∈ cur ∧ nm r = 1 := by rw [(H9.out.perm 1 hν).mem_iff, List.mem_filter]; simp
                              have hcur := went_mem HF2.out.2.1 HR.out.1 HND.out
                              have cM := H9.out.cM
                              have lk := (lookup_any H9.out.map hν).2
                              have cri := (H9.out.node r hrm).2
                              have HCN2 := (show Hid _ from hcN)
                              have HME := (show Hid _ from And.intro hmem hcur)
                              clear hcN hmem hcur HCN hlt hk
                              rcases H9.out.tree 1 hν with ⟨htb, hl0⟩ | ⟨t, root, n, htb, hbx, htr⟩
                              · as_aux_lemma =>
                                rw [htb] at lk
                                simp only [ptr, pa, Option.isSome] at lk
                                obtain rfl : cN = 0 := by rw [HCN2.out, hl0]; rfl
                                clear htb hl0 HCN2
                                go_wp2_with fail
                                go_roundw
                                case rel => exact ⟨2, by omega, rfl, H9⟩
                                case measure => simp [intOf]
                              · as_aux_lemma =>
                                rw [htb] at lk
                                simp only [ptr, pa, Option.isSome] at lk
                                have hroot := htr.root_mem
                                have hc0 : ¬ (cN : Int) = 0 := by
                                  have := List.length_pos_of_mem hroot; rw [← HCN2.out] at this; omega
                                have hc1 : ((cN : Int) == 0) = false := by simp; omega
                                have ct : wr.cell? ⟨t, 0, none⟩ = some (.pointer (some ⟨root, 0, none⟩)) := by
                                  have hbx' : wr.heap[t]? = some (.cells #[ptr (some root)] 90 (0, 0)) := hbx
                                  simp [World.cell?, hbx', ptr, pa]
                                have HCA := (show Hid _ from count_any ky r n _ _ wr htr (by rw [← HCN2.out]; omega) (fun x hx => (H9.out.node x (H9.out.sub x (List.mem_filter.1 ((H9.out.perm 1 hν).mem_iff.1 hx)).1)).1) (H9.out.node r hrm).1.blkc)
                                clear htb hbx htr hroot
                                go_wp2_with fail
                                refine (show Calls _ _ _ _ _ from HCA.out).mono ?_
                                rintro e W9 ⟨rfl, rfl⟩
                                rw [← HCN2.out]
                                clear HCA lk
                                by_cases hrl : r ∈ l2 1
                                · as_aux_lemma =>
                                  obtain ⟨hrc, hrn0⟩ := HME.out.1.1 hrl
                                  have hz1 := HME.out.2.1 hrc
                                  obtain rfl : z = false := by rw [← hzz]; simp; omega
                                  rw [hrn0] at cri
                                  clear hrn0 hz1 hzz hrc HME
                                  go_wp2_with fail
                                  go_roundw
                                  case rel => exact ⟨2, by omega, rfl, H9⟩
                                  case measure => simp [intOf]
                                · by_cases hrn0 : nm r = 1
                                  · as_aux_lemma =>
                                    have hz1 : hd r = 1 := by
                                      false_or_by_contra; exact hrl (HME.out.1.2 ⟨HME.out.2.2 (by assumption), hrn0⟩)
                                    obtain rfl : z = true := by rw [← hzz]; simp [hz1]
                                    rw [hrn0] at cri
                                    clear hrn0 hz1 hzz HME
                                    go_wp2_with fail
                                    go_roundw
                                    case rel => exact ⟨2, by omega, rfl, H9⟩
                                    case measure => simp [intOf]
                                  · as_aux_lemma =>
                                    have hne := nms_ne hν hrn (Ne.symm hrn0)
                                    have hneb : ((nms 1).toList == (nms (nm r)).toList) = false := by simp [hne]
                                    clear hrn0 HME hne
                                    go_wp2_with fail
                                    go_roundw
                                    case rel => exact ⟨2, by omega, rfl, H9⟩
                                    case measure => simp [intOf]
                      · go_wp2_with fail
                        go_ret
                        exact ⟨rfl, H9.out.low⟩
end Go.Proofs.Ybulkbhqs
