/-
  'end' by a contract. Own work on this program.
-/
import Derived.Test.YbulkbhqsDoorEnd2
import Derived.Deep.RegionHeld3
namespace Go.Proofs.YbulkbhqsDoor
open Go.RowKit
open Go.ChangeMaps (setBlock)
set_option linter.unusedVariables false

variable {g : Gh} {row : Nat → Value} {inn ex : Nat → Bool} {W : World}

set_option maxRecDepth 100000 in
set_option maxHeartbeats 1000000 in
theorem end_shut (m t : Nat) (c9 : W.cell? ⟨t, 9, none⟩ = some (.bool true)) :
    Calls Ybad.prog 6 #[pt m, pt t] W fun e W' => e = .returned (.tuple #[]) ∧ W' = W := by
  go_enter Ybad.func6, Ybad.ntmps6
  go_wp2_with fail
  refine bodyPost_ret (results_none rfl _ _ _) rfl ?_
  exact ⟨rfl, rfl⟩

theorem tx_cells2 {b m : Nat} {id k : Int} {hv tv : Value} {en : Bool} (h : W.heap[b]? = some (.cells (txc m id hv tv en k) 37 (0, 0))) :
    W.cell? ⟨b, 12, none⟩ = some (.map none) ∧ W.cell? ⟨b, 13, none⟩ = some (.string ⟨#[]⟩) ∧ W.cell? ⟨b, 14, none⟩ = some (.pointer none) ∧ W.cell? ⟨b, 15, none⟩ = some (.pointer none) ∧ W.cell? ⟨b, 16, none⟩ = some (.string ⟨#[]⟩) ∧ W.cell? ⟨b, 17, none⟩ = some (.pointer none) ∧ W.cell? ⟨b, 18, none⟩ = some (.pointer none) ∧
    W.cell? ⟨b, 19, none⟩ = some (.string ⟨#[]⟩) ∧ W.cell? ⟨b, 20, none⟩ = some (.pointer none) ∧ W.cell? ⟨b, 21, none⟩ = some (.pointer none) ∧ W.cell? ⟨b, 22, none⟩ = some (.string ⟨#[]⟩) ∧ W.cell? ⟨b, 23, none⟩ = some (.pointer none) ∧ W.cell? ⟨b, 24, none⟩ = some (.pointer none) := by
  simp [World.cell?, h, txc]

/-- The world ahead of the first loop. -/
theorem mid_start {held tables : List Nat} {hv tv cv : Value} {k B : Nat} {W1 W2 : World} (h : QS g g.all row inn ex W) (s : Stt g) (hs : Hs g (held ++ tables)) (ht : W.heap[g.t]? = some (.cells (txc g.m 1 hv tv false k) 37 (0, 0)))
    (hk : k = (held ++ tables).countP ex) (e1 : W1 = (W.setCell ⟨g.t, 9, none⟩ (.bool true)).alloc (.map #[] 0)) (h2 : Kept [] W1 W2) (hc : W2.ownsRow B 29 1 cv (held ++ tables).length (ptrs (held ++ tables))) :
    Mid1 g (held ++ tables) row inn ex hv tv cv B W.heap.size W 0 row W2 := by
  have hlt : g.t < W.heap.size := (Array.getElem?_eq_some_iff.1 ht).1
  have hsz : (W.setCell ⟨g.t, 9, none⟩ (.bool true)).heap.size = W.heap.size := by simp [World.setCell]
  have hsz1 : W1.heap.size = W.heap.size + 1 := by rw [e1]; simp [World.setCell]
  have far : ∀ b, b < W.heap.size → b ≠ g.t → W2.heap[b]? = W.heap[b]? := fun b hb hne =>
    (h2.blk b (by omega) (by simp)).trans (by rw [e1]; exact (Below.heap_alloc _ _ _ (by omega)).trans (Below.heap_setCell _ _ _ _ hne))
  have hnt := h.txn_not_used ht
  have q2 : QS g g.all row inn ex W2 := h.far (fun b hb => far b (h.used_lt hb) (fun e => hnt (e ▸ hb)))
  refine ⟨q2.congr (fun o _ => ?_) (fun _ _ => rfl) (fun _ r _ _ => ?_), fun _ _ _ => rfl, ?_, hc, ?_, ⟨?_, ?_, ?_, ?_, fun b hb hn => far b hb (fun e => hn (.inl e))⟩⟩
  · simp [left]
  · simp [exl]
  · refine (h2.blk _ (by omega) (by simp)).trans ?_
    rw [e1]
    refine (Below.heap_alloc _ _ _ (by omega)).trans ?_
    rw [heap_set_cells ht, hk]
    simp [txc]
  · have : W2.heap[W.heap.size]? = some (.map #[] 0) := by
      refine (h2.blk _ (by omega) (by simp)).trans ?_
      rw [e1, ← hsz]
      exact heap_alloc_new _ _
    exact ⟨#[], 0, this, EntAs.empty _ (fun k v ⟨_, o, ⟨_, r, hr, _⟩, _⟩ => by simp at hr)⟩
  · exact h2.os.trans (by rw [e1]; rfl)
  · exact h2.tape.trans (by rw [e1]; rfl)
  · exact h2.output.trans (by rw [e1]; rfl)
  · have := h2.size; omega

set_option maxRecDepth 100000 in
set_option maxHeartbeats 1000000 in
theorem end_open {held tables : List Nat} {hv tv : Value} {k b1 b2 : Nat} (h : QS g g.all row inn ex W) (s : Stt g) (hs : Hs g (held ++ tables)) (ht : W.heap[g.t]? = some (.cells (txc g.m 1 hv tv false k) 37 (0, 0))) (hk : k = (held ++ tables).countP ex)
    (hh : W.ownsRow b1 29 1 hv held.length (ptrs held)) (htb : W.ownsRow b2 29 1 tv tables.length (ptrs tables)) (hl1 : held.length ≤ 512) (hl2 : tables.length ≤ 512) (hin : ∀ o, o < 6 → g.th o = true → inn o = true) :
    Calls Ybad.prog 6 #[pt g.m, pt g.t] W fun e W' => e = .returned (.tuple #[]) ∧ Ended g row inn W W' := by
  obtain ⟨c2, c3, c4, c5, c6, c9, c11⟩ := tx_cells ht
  have f9 : W.frozen? ⟨g.t, 9, none⟩ = false := by simp [World.frozen?, ht]
  have hlt : g.t < W.heap.size := (Array.getElem?_eq_some_iff.1 ht).1
  have hsz : (W.setCell ⟨g.t, 9, none⟩ (.bool true)).heap.size = W.heap.size := by simp [World.setCell]
  have t1 : ((W.setCell ⟨g.t, 9, none⟩ (.bool true)).alloc (.map #[] 0)).heap[g.t]? = some (.cells (txc g.m 1 hv tv true k) 37 (0, 0)) := by
    refine (Below.heap_alloc _ _ _ (by omega)).trans ?_
    rw [heap_set_cells ht]
    simp [txc]
  obtain ⟨d2, d3, d4, d5, d6, d9, d11⟩ := tx_cells t1
  have HT := (show Hid _ from And.intro ht t1)
  clear ht c2 c3 c4 c5 c6 c11 d3 d4 d9 d11 t1
  have hmm := @run_makeMap Ybad.prog
  simp only [pt]
  go_enter Ybad.func6, Ybad.ntmps6
  go_upto_if 24 with fail
  obtain ⟨W1, e1⟩ : ∃ W1, W1 = (W.setCell ⟨g.t, 9, none⟩ (.bool true)).alloc (.map #[] 0) := ⟨_, rfl⟩
  rw [← e1] at d2 d5 d6 ⊢
  have hsz1 : W1.heap.size = W.heap.size + 1 := by rw [e1]; simp [World.setCell]
  have far1 : ∀ b, b < W.heap.size → b ≠ g.t → W1.heap[b]? = W.heap[b]? := fun b hb hne => by rw [e1]; exact (Below.heap_alloc _ _ _ (by omega)).trans (Below.heap_setCell _ _ _ _ hne)
  have rowFar : ∀ {v : Value} {b n : Nat} {xs : List Value}, W.ownsRow b 29 1 v n xs → W1.ownsRow b 29 1 v n xs := fun ho => owns_of_block ho (fun gb hb => by
    obtain ⟨c, hc⟩ := row_blk ho hb
    exact far1 gb (Array.getElem?_eq_some_iff.1 hc).1 (cells_ne hc HT.out.1 (by decide)))
  have HC := (show Hid _ from concat_any (W := (W1.alloc (.cells #[hv, tv] 27 (0, 0))).drew) (s := W.heap.size + 1) (by rw [← hsz1]; exact heap_alloc_new _ _) (show ((W1.alloc (.cells #[hv, tv] 27 (0, 0))).drew).ownsRow b1 29 1 hv held.length (ptrs held) from (rowFar hh).alloc _) (show ((W1.alloc (.cells #[hv, tv] 27 (0, 0))).drew).ownsRow b2 29 1 tv tables.length (ptrs tables) from (rowFar htb).alloc _) (by omega) (by omega) W.heap.size (by simp; omega))
  have hst : ∀ (W2 : World) (cv : Value), Kept [] W1 W2 → W2.ownsRow W.heap.size 29 1 cv (held ++ tables).length (ptrs (held ++ tables)) → Mid1 g (held ++ tables) row inn ex hv tv cv W.heap.size W.heap.size W 0 row W2 := fun W2 cv k2 hc => mid_start h s hs HT.out.1 hk e1 k2 hc
  have hHl : (held ++ tables).length ≤ 1024 := by simp; omega
  have hKb : (held ++ tables).countP ex ≤ 1024 := Nat.le_trans List.countP_le_length hHl
  generalize held ++ tables = H at hs hk HC hst hHl hKb
  obtain ⟨a1, cap1, rfl⟩ := slice_form hh
  obtain ⟨a2, cap2, rfl⟩ := slice_form htb
  have t1 : W1.heap[g.t]? = some (.cells (txc g.m 1 (.slice a1 held.length cap1) (.slice a2 tables.length cap2) true k) 37 (0, 0)) := by rw [e1]; exact HT.out.2
  have HB := (show Hid (∀ W2, Kept [] (W1.alloc (.cells #[.slice a1 held.length cap1, .slice a2 tables.length cap2] 27 (0, 0))).drew W2 → W2.cell? ⟨g.t, 2, none⟩ = some (.slice a1 held.length cap1) ∧ W2.cell? ⟨g.t, 5, none⟩ = some (.slice a2 tables.length cap2) ∧ Kept [] W1 W2) from fun W2 hk => by
    have hk' : Kept [] W1 W2 := (((Kept.alloc [] W1 _).drew).trans hk)
    have := tx_cells ((hk'.blk g.t (by omega) (by simp)).trans t1)
    exact ⟨this.1, this.2.2.2.1, hk'⟩)
  have HW := (show Hid _ from And.intro e1 (And.intro (rowFar hh) (And.intro (rowFar htb) hst)))
  clear e1 rowFar far1 hmm hh htb t1
  go_wp2_with fail
  go_region_held3 (fun w' => w'.cell? ⟨g.t, 2, none⟩ = some (.slice a1 held.length cap1) ∧ w'.cell? ⟨g.t, 5, none⟩ = some (.slice a2 tables.length cap2)) (go_keep) (first | (go_at_call 10; refine (show Calls _ _ _ _ _ from HC.out).mono ?_; rintro e W2 ⟨cv, rfl, hcv, k2, hcb⟩; obtain ⟨ca, ccap, rfl⟩ := slice_form hcv; obtain ⟨q2, q5, k2'⟩ := (show ∀ W2 : World, _ from HB.out) W2 k2))
  have M0 := HW.out.2.2.2 W2 _ k2' hcv
  have HH := (show Hid _ from And.intro h (And.intro s (And.intro hs (And.intro hin hKb))))
  have HM := (show Hid _ from M0)
  clear M0 h s hs hin hst q2 q5 k2 k2' hcv d2 d5 d6 HC HB hKb HW
  go_wp2_with fail
  go_loopw [55] (fun c wr => ∃ (j : Nat) (row' : Nat → Value), j ≤ H.length ∧ c = .int .i64 j ∧ Hid (Mid1 g H row inn ex (.slice a1 held.length cap1) (.slice a2 tables.length cap2) (.slice ca H.length ccap) W.heap.size W.heap.size W j row' wr)) (fun c _ => H.length - (intOf c).toNat)
  case atStart => exact ⟨0, row, Nat.zero_le _, rfl, HM⟩
  case round =>
    obtain ⟨j, row', hj, rfl, M⟩ := hrel
    by_cases e : j < H.length
    · have M1 : Mid1 _ _ _ _ _ _ _ _ _ _ _ _ _ _ := M.out
      obtain ⟨hW, s, hs, hin, hKb⟩ := HH.out
      obtain ⟨o, ho, ha, hl, hx, hown⟩ := M1.here hs e
      have hth := s.there o _ ho ha
      obtain ⟨cg, cap', hcg⟩ := owns_succ M1.cat (by omega)
      cases hcg
      have c1 : wr.cell? ⟨cg, j, none⟩ = some (pt H[j]) := (M1.cat.cellAt j (by omega)).trans (ptrs_at H j e)
      have c2 := (M1.qs.reqs o H[j] ho ha).que
      have hq := M1.qs.queue o ho hth
      obtain ⟨es, clock, hb, hent⟩ := M1.tch
      have hko : KeyOk 38 wr es.toList (pt (g.q o)) := key_ptr ⟨_, hq⟩ es.toList (fun x hx => by
        obtain ⟨_, o', ⟨h6, r, hr, hra⟩, hk'⟩ := (hent.2 x.key x.val).2 ⟨x, hx, rfl, rfl⟩
        exact ⟨g.q o', hk', _, M1.qs.queue o' h6 (s.there o' r h6 hra)⟩)
      obtain ⟨es', clock', hup, hent'⟩ := update_as (v := .bool true) Ybad.underlying78 hb hent hko
      have hent2 : EntAs (tchRel g H (j + 1)) es' clock' := ⟨hent'.1, fun k v => (tch_step e s ho ha k v).symm.trans (hent'.2 k v)⟩
      have usd : ∀ b, used g row' inn b → b < W.heap.size := fun b hb => hW.used_lt (used_congr M1.rb (fun _ _ k => k) hb)
      have hfar : ∀ b, b < W.heap.size → (wr.putObj W.heap.size (.map es' clock')).heap[b]? = wr.heap[b]? := fun b hb => World.putObj_heap_other (by omega)
      have hrb : H[j] < W.heap.size := usd _ (.inr (.inr (.inr (.inr ⟨o, ho, .inr ha⟩))))
      have qs1 : QS g (left g H j) row' inn (exl ex H j) (wr.putObj W.heap.size (.map es' clock')) := M1.qs.far (fun b hb => hfar b (usd b hb))
      have tx1 := (hfar g.t hlt).trans M1.tx
      have c2' := (qs1.reqs o H[j] ho ha).que
      have hcnt : ((H.drop j).countP ex) ≤ 1024 := Nat.le_trans List.countP_le_length (by simp; omega)
      have HR := (show Hid _ from remove_step qs1 s ho hl hown tx1 (tx_cells tx1).2.2.2.2.2.2 hcnt (fun hxe => by
        rw [hx] at hxe
        have := drop_count (ex := ex) e
        rw [hxe] at this
        simp at this
        omega))
      have HX := (show Hid _ from And.intro hent2 (And.intro ho (And.intro ha (And.intro hl hx))))
      clear M1 hW s hs hin hKb hl hx hown hth hq hb hent hko hent' hent2 usd hfar hrb qs1 tx1 hcnt ha
      simp only [pt] at c1 c2 c2' hup HR
      generalize hre : H[j] = r at c1 c2 c2' HR HX
      have HE := (show Hid _ from hre)
      clear hre
      go_wp2_with fail
      refine (show Calls _ _ _ _ _ from HR.out).mono ?_
      rintro e2 w2 ⟨rfl, v', kr, htt⟩
      go_wp2_with fail
      go_roundw
      case rel =>
        obtain ⟨hent2, ho, ha, hl, hx⟩ := HX.out
        obtain ⟨hW, s, hs, hin, hKb⟩ := HH.out
        have hre : H[j] = r := HE.out
        subst hre
        exact ⟨j + 1, _, by omega, by go_num, (show Mid1 _ _ _ _ _ _ _ _ _ _ _ _ _ _ from M.out).step hW hs s e ho ha hl hx (Nat.le_refl _) (Nat.le_refl _) rfl hent2 kr htt⟩
      case measure => simp [intOf]; omega
    · obtain rfl : j = H.length := by omega
      have M1 : Mid1 _ _ _ _ _ _ _ _ _ _ _ _ _ _ := M.out
      have tx := M1.tx
      rw [List.drop_length] at tx
      obtain ⟨d2, d3, d4, d5, d6, d9, d11⟩ := tx_cells tx
      have fz : ∀ o, wr.frozen? ⟨g.t, o, none⟩ = false := fun o => by simp [World.frozen?, tx]
      obtain ⟨d12, d13, d14, d15, d16, d17, d18, d19, d20, d21, d22, d23, d24⟩ := tx_cells2 tx
      have TX := (show Hid _ from tx)
      clear tx M1 d6 d9 d11
      go_wp2_with fail
      refine wp_loop_rounds 1 ?_
      rw [rounds_succ]
      go_upto_region 22 with fail
      obtain ⟨hW, s, hs, hin, hKb⟩ := HH.out
      have M1 : Mid1 _ _ _ _ _ _ _ _ _ _ _ _ _ _ := M.out
      obtain ⟨es, clock, hb, hent⟩ := M1.tch
      have hbt : W.heap.size ≠ g.t := by omega
      have M2 := M1.over hW (Nat.le_refl _) hb
      have hne : W.heap.size ≠ wr.heap.size := by have := (Array.getElem?_eq_some_iff.1 hb).1; omega
      have hle : W.heap.size ≤ wr.heap.size := M1.frame.size
      have hbc : (cleared wr g.t).heap[W.heap.size]? = some (.map es clock) := (cleared_far _ _ _ hbt).trans hb
      have hcs := cleared_size wr g.t
      have hra := run_range_map (P := Ybad.prog) (cleared wr g.t) 78 38 4 W.heap.size es clock Ybad.underlying78 hbc
      rw [hcs] at hra
      obtain ⟨V, hV⟩ : ∃ V, V = cleared wr g.t := ⟨_, rfl⟩
      rw [← hV] at M2 hra
      have hV2 := hV
      unfold cleared bare at hV2
      simp only [setL] at hV2
      rw [← hV2]
      have HN := (show Hid _ from And.intro M2 (And.intro hent (And.intro hne hle)))
      clear M1 hW s hs hin hKb hb hent hbt M2 hne hle hbc hcs hV hV2 d2 d3 d4 d5 d12 d13 d14 d15 d16 d17 d18 d19 d20 d21 d22 d23 d24 fz TX
      generalize wr.heap.size = it at hra HN
      go_wp2_with fail
      go_loopw [10] (fun _ wn => ∃ seen dn row'', Hid (Mid2 g H row inn ex es clock W.heap.size it W seen dn row'' wn)) (fun _ wn => wn.rangeLeft W.heap.size it)
      case atStart => exact ⟨#[], _, row', HN.out.1⟩
      case round =>
        obtain ⟨seen, dn, row'', M2⟩ := hrel
        have M3 : Mid2 _ _ _ _ _ _ _ _ _ _ _ _ _ _ := M2.out
        obtain ⟨hW, s, hs, hin, hKb⟩ := HH.out
        obtain ⟨-, hent, hne, hle⟩ := HN.out
        rcases run_next_at (P := Ybad.prog) wr 0 it W.heap.size clock clock seen es clock M3.iter M3.mp hent.1.1 (Nat.le_refl _) with ⟨h0, hnx⟩ | ⟨en, hen, w1, h1, hnx⟩
        · have fin := M3.ended hs s hin hent h0
          have HF := (show Hid _ from fin)
          clear M3 hW s hs hin hKb hent hne hle fin h0 hra
          go_wp2_with fail
          go_end0
          exact ⟨rfl, HF.out⟩
        · obtain ⟨o, ho, hth, hk, hio, hq⟩ := M3.comes hW s hin hent hle hne hen h1
          have hmem : en ∈ es.toList := by
            simp only [leftOf, Array.toList_filter, List.mem_filter] at hen
            exact hen.1
          have hst := settle_step hq s ho hio
          have hlti : it < wr.heap.size := (Array.getElem?_eq_some_iff.1 M3.iter).1
          have hsi : (setBlock w1 it (.mapIter (some W.heap.size) clock (seen.push en.born) clock)).heap[it]? = some (.mapIter (some W.heap.size) clock (seen.push en.born) clock) := by
            rcases h1 with rfl | rfl
            · simp [setBlock, hlti]
            · show (wr.heap.setIfInBounds it _)[it]? = _
              simp [hlti]
          have hsm : (setBlock w1 it (.mapIter (some W.heap.size) clock (seen.push en.born) clock)).heap[W.heap.size]? = some (.map es clock) := by
            rcases h1 with rfl | rfl
            · simp [setBlock, Ne.symm hne]; exact M3.mp
            · show (wr.heap.setIfInBounds it _)[W.heap.size]? = _
              simp [Ne.symm hne]; exact M3.mp
          have hey := run_entry_at (P := Ybad.prog) (setBlock w1 it (.mapIter (some W.heap.size) clock (seen.push en.born) clock)) it W.heap.size clock seen es clock en hsi hsm hmem hent.1.2.1
          have HL := (show Hid (∀ w2, _ → _ → Mid2 g H row inn ex es clock W.heap.size it W (seen.push en.born) (upd dn o true) row'' w2) from fun w2 a b => M3.step hW s hent hle (Nat.le_refl _) hne hen h1 ho hth hk hio a b)
          have HS := (show Hid _ from hst)
          have hcnt : (leftOf es (seen.push en.born)).size < (leftOf es seen).size := left_shrinks es seen en hen
          have HC := (show Hid _ from And.intro hcnt (And.intro M3.iter M3.mp))
          rw [hk] at hnx hey
          simp only [pt] at hnx hey HS
          clear M3 hW s hs hin hKb hent hne hle hra hq hio hst hsi hsm hmem hcnt hen h1 hk
          generalize setBlock w1 it (.mapIter (some W.heap.size) clock (seen.push en.born) clock) = V2 at hnx hey HS HL
          go_wp2_with fail
          refine (show Calls _ _ _ _ _ from HS.out).mono ?_
          rintro e2 w2 ⟨rfl, hq2, k2⟩
          have M4 := (show ∀ w2 : World, _ from HL.out) w2 hq2 k2
          have HM4 := (show Hid _ from M4)
          clear M4 hq2 k2
          go_wp2_with fail
          go_roundw
          case rel => exact ⟨_, _, _, HM4.out⟩
          case measure =>
            have M4 : Mid2 _ _ _ _ _ _ _ _ _ _ _ _ _ _ := HM4.out
            obtain ⟨hcnt, hi, hm⟩ := HC.out
            simp only [World.rangeLeft, hi, hm, M4.iter, M4.mp]
            exact hcnt
end Go.Proofs.YbulkbhqsDoor
