/-
  The law's walk, part H: a round's request is laid into 'all' and into its owner's row. Own work on this program.
-/
import Derived.Test.YbulkbhqsDoorLawG
namespace Go.Proofs.YbulkbhqsDoor
open Go.RowKit
set_option linter.unusedVariables false

theorem Mem.txcells {N : Nat} {en : Bool} {s : Gs} {W0 w : World} (h : Mem N en s W0 w) (b t : Bool) :
    w.cell? ⟨if b = true then N + 6 else N + 7, if t = true then 5 else 2, none⟩ = some (s.R (oj b t)) ∧ w.frozen? ⟨if b = true then N + 6 else N + 7, if t = true then 5 else 2, none⟩ = false := by
  cases b <;> cases t
  · exact ⟨(tx_cells h.ux).1, by simp [World.frozen?, h.ux]⟩
  · exact ⟨(tx_cells h.ux).2.2.2.1, by simp [World.frozen?, h.ux]⟩
  · exact ⟨(tx_cells h.tx).1, by simp [World.frozen?, h.tx]⟩
  · exact ⟨(tx_cells h.tx).2.2.2.1, by simp [World.frozen?, h.tx]⟩

/-- A cell of a request that nobody asks for. -/
theorem Mem.setReq {N : Nat} {en : Bool} {s : Gs} {W0 w : World} (h : Mem N en s W0 w) {o r : Nat} (ho : o < 6) (hr : r ∈ s.A o) {i : Nat} (h2 : 2 ≤ i) (h9 : i ≤ 9) (v : Value) : Mem N en s W0 (w.setCell ⟨r, i, none⟩ v) := by
  obtain ⟨c, hc⟩ := (h.reqs o r ho hr).blk
  have ft : ∀ {b : Nat} {c' : Array Value} {t : TypeId}, w.heap[b]? = some (.cells c' t (0, 0)) → t ≠ 72 → (w.setCell ⟨r, i, none⟩ v).heap[b]? = w.heap[b]? := fun hb ht => Below.heap_setCell _ _ _ _ (cells_ne hb hc ht)
  have fm : ∀ {b : Nat} {f : Value → Value → Prop}, MapAs w b f → MapAs (w.setCell ⟨r, i, none⟩ v) b f := fun hm => hm.same (Below.heap_setCell _ _ _ _ (hm.ne_cells hc))
  obtain ⟨d1, a1, a2, a3⟩ := h.arr
  obtain ⟨d2, b1, b2, b3⟩ := h.arra
  refine ⟨(ft h.man (by decide)).trans h.man, ⟨d1, a1, a2, (ft a3 (by decide)).trans a3⟩, ⟨d2, b1, b2, (ft b3 (by decide)).trans b3⟩, fun o' ho' ht' => (ft (h.queue o' ho' ht') (by decide)).trans (h.queue o' ho' ht'), (ft h.tx (by decide)).trans h.tx, (ft h.ux (by decide)).trans h.ux, h.rows.keep (fun b' c' hb => ft hb (by decide)), ?_, fm h.tables, fm h.keys, fun a => fm (h.home a), h.lowh, ?_, h.size0, h.lowq, h.lowr, h.inTh, h.qinj⟩
  · intro o' r' ho' hr'
    have q := h.reqs o' r' ho' hr'
    by_cases e : r' = r
    · subst e
      obtain ⟨c', hc'⟩ := setCell_isc w ⟨r', i, none⟩ v c 72 (0, 0) hc
      have ne : ∀ k, k < 2 ∨ 10 ≤ k → (w.setCell ⟨r', i, none⟩ v).cell? ⟨r', k, none⟩ = w.cell? ⟨r', k, none⟩ := fun k hk => World.cell?_setCell_other _ _ _ _ (by simp; try omega)
      exact ⟨⟨c', hc'⟩, (ne 0 (by omega)).trans q.txn, (ne 1 (by omega)).trans q.que, (ne 10 (by omega)).trans q.granted, (ne 11 (by omega)).trans q.exposed⟩
    · exact q.far (Below.heap_setCell _ _ _ _ e)
  · refine h.frame.andThen (T := [r]) ⟨rfl, rfl, rfl, by simp [World.setCell], fun b hb hn => Below.heap_setCell _ _ _ _ (by simpa using hn)⟩ (fun x hx => .inr ?_)
    have := h.lowr o r ho hr
    have := h.size0
    simp at hx
    omega

set_option maxRecDepth 100000 in
set_option maxHeartbeats 4000000 in
theorem partH : partG.1 := by
  delta partG
  dsimp only
  set_option tactic.hygienic false in intros
  obtain ⟨v1, hcut⟩ := hcut
  rename World => w0
  have M : Mem _ _ _ _ _ := hcut.out
  obtain ⟨p, hth, hfr⟩ := HPP.out
  have hl1 := p.len (6 + o) (by omega)
  obtain ⟨s2, hs2⟩ : ∃ s2 : Gs, s2 = { s1.req o r owj xpj with R := upd s1.R o v1, C := upd s1.C o (s1.C o ++ [r]) } := ⟨_, rfl⟩
  rw [← hs2] at M
  have c6 : s2.C (6 + o) = s1.C (6 + o) := by rw [hs2]; exact upd_other _ _ (by omega)
  have cj : s2.C (oj owj (decide (o < 3))) = s1.C (oj owj (decide (o < 3))) := by rw [hs2]; exact upd_other _ _ (by have := (oj_lt owj (decide (o < 3))).2; omega)
  have hlj := p.len (oj owj (decide (o < 3))) (oj_lt _ _).1
  have hrA : r ∈ s2.A o := by rw [hs2]; show r ∈ upd s1.A o (s1.A o ++ [r]) o; rw [upd_same]; simp
  -- 'all'
  obtain ⟨-, q2, -, q3, -, -⟩ := M.cells ho6
  obtain ⟨v2, w1, hap, app⟩ := M.append (j := 6 + o) (by omega) (by rw [c6]; omega) r
  obtain ⟨a2, cap2, rfl⟩ := slice_form app.own
  have M2 := M.appa ho6 app
  obtain ⟨a1', cap1', hsl⟩ := slice_form (M.rows.own (6 + o) (by omega))
  obtain ⟨d2, b1, b2, b3⟩ := M.arra
  have hfar : w1.heap[W.heap.size + 9]? = w0.heap[W.heap.size + 9]? := app.far _ (Array.getElem?_eq_some_iff.1 b3).1 (fun e => by obtain ⟨c, hc⟩ := row_blk (M.rows.own (6 + o) (by omega)) e; exact cells_ne b3 hc (by decide) rfl)
  have g2 := (World.cell?_of_block (w := w0) (a := ⟨W.heap.size + 9, o, none⟩) hfar).trans q2
  have g3 : w1.frozen? ⟨W.heap.size + 9, o, none⟩ = false := by simp [World.frozen?, hfar, b3]
  rw [hsl] at q2 g2
  rw [hsl] at hap
  simp only [pt] at hap
  have HAP := (show Hid _ from hap)
  have HM2 := (show Hid _ from M2)
  have HS2 := (show Hid _ from And.intro hs2 (And.intro c6 (And.intro cj (And.intro hlj hrA))))
  clear hcut M M2 p hth hfr hs2 c6 cj hlj hrA app hap b1 b2 b3 hsl hfar hl1
  go_upto_if 172 with (first | (at_builtin; refine Lib.wpList_append_run _ rfl (.tmp 166) (.tmp 168) 27 27 rfl (.slice a1' (s2.C (6 + o)).length cap1') (.slice (some ⟨w0.heap.size, 0, none⟩) 1 1) rfl rfl _ _ HAP.out ?_) | go_in)
  obtain ⟨s3, hs3⟩ : ∃ s3 : Gs, s3 = { s2 with R := upd s2.R (6 + o) (.slice a2 ((s2.C (6 + o)).length + 1) cap2), C := upd s2.C (6 + o) (s2.C (6 + o) ++ [r]) } := ⟨_, rfl⟩
  have M3 : Mem _ _ _ _ _ := HM2.out
  rw [← hs3] at M3
  clear HM2 HAP g2 g3 q2 q3
  generalize w1.setCell ⟨W.heap.size + 9, o, none⟩ (.slice a2 ((s2.C (6 + o)).length + 1) cap2) = X2 at M3
  obtain ⟨hs2, c6, cj, hlj, hrA⟩ := HS2.out
  have hOB : OB = _ := HOB.out
  have hj3 := oj_lt owj (decide (o < 3))
  have cj3 : s3.C (oj owj (decide (o < 3))) = s1.C (oj owj (decide (o < 3))) := by rw [hs3, ← cj]; exact upd_other _ _ (by omega)
  have hrA3 : r ∈ s3.A o := by rw [hs3]; exact hrA
  have fin : ∀ v3, { s3 with R := upd s3.R (oj owj (decide (o < 3))) v3, C := upd s3.C (oj owj (decide (o < 3))) (s3.C (oj owj (decide (o < 3))) ++ [r]) } = s1.next o r owj xpj v1 (.slice a2 ((s2.C (6 + o)).length + 1) cap2) v3 := by
    intro v3
    rw [hs3, hs2]
    have h1 : upd s1.C o (s1.C o ++ [r]) (6 + o) = s1.C (6 + o) := upd_other _ _ (by omega)
    have h2 : upd (upd s1.C o (s1.C o ++ [r])) (6 + o) (s1.C (6 + o) ++ [r]) (oj owj (decide (o < 3))) = s1.C (oj owj (decide (o < 3))) := (upd_other _ _ (by omega)).trans (upd_other _ _ (by omega))
    simp only [Gs.next, Gs.req, h1, h2]
  have HFIN := (show Hid _ from And.intro fin hrA3)
  have hOBb : ∃ c, X2.heap[OB]? = some (.cells c 37 (0, 0)) := by
    rw [hOB]
    cases owj
    · exact ⟨_, M3.ux⟩
    · exact ⟨_, M3.tx⟩
  by_cases h3 : o < 3
  · have h3i : (o : Int) < 3 := by omega
    have hd : decide (o < 3) = true := by simpa using h3
    rw [hd] at HFIN cj3 hj3 hlj
    obtain ⟨t5, t6⟩ := M3.txcells owj true
    simp only [if_true] at t5 t6
    rw [← hOB] at t5 t6
    obtain ⟨v3, w3, hap, app⟩ := M3.append (j := oj owj true) hj3.1 (by rw [cj3]; omega) r
    obtain ⟨a3', cap3, rfl⟩ := slice_form app.own
    have M4 := M3.appo owj true app
    simp only [if_true] at M4
    rw [← hOB] at M4
    obtain ⟨a4', cap4, hsl⟩ := slice_form (M3.rows.own (oj owj true) hj3.1)
    rw [hsl] at t5
    rw [hsl] at hap
    simp only [pt] at hap
    obtain ⟨cb, hcb⟩ := hOBb
    have hfar : w3.heap[OB]? = X2.heap[OB]? := app.far _ (Array.getElem?_eq_some_iff.1 hcb).1 (fun e => by obtain ⟨c, hc⟩ := row_blk (M3.rows.own (oj owj true) hj3.1) e; exact cells_ne hcb hc (by decide) rfl)
    have g5 := (World.cell?_of_block (w := X2) (a := ⟨OB, 5, none⟩) hfar).trans t5
    have g6 : w3.frozen? ⟨OB, 5, none⟩ = false := by simp [World.frozen?, hfar, hcb]
    have HAP := (show Hid _ from hap)
    have HM4 := (show Hid _ from M4)
    clear M3 M4 hs2 hs3 c6 cj hlj hrA hrA3 hOB fin app hap hsl hfar hcb cj3 hj3
    go_wp2_with (first | (at_builtin; refine Lib.wpList_append_run _ rfl (.tmp 177) (.tmp 179) 27 27 rfl (.slice a4' (s3.C (oj owj true)).length cap4) (.slice (some ⟨X2.heap.size, 0, none⟩) 1 1) rfl rfl _ _ HAP.out ?_) | go_in)
    go_roundg k
    case measure => omega
    case rel =>
      obtain ⟨p, hth, hfr⟩ := HPP.out
      obtain ⟨fin, _⟩ := HFIN.out
      have M5 : Mem _ _ _ _ _ := HM4.out
      rw [fin] at M5
      exact ⟨j + 1, s1.next o r owj xpj v1 (.slice a2 ((s2.C (6 + o)).length + 1) cap2) (.slice a3' ((s3.C (oj owj true)).length + 1) cap3), by omega, by go_num, M5, p.next ho6 hth hfr⟩
  · have h3i : ¬ (o : Int) < 3 := by omega
    have hd : decide (o < 3) = false := by simpa using h3
    rw [hd] at HFIN cj3 hj3 hlj
    obtain ⟨t5, t6⟩ := M3.txcells owj false
    simp only [Bool.false_eq_true, if_false] at t5 t6
    rw [← hOB] at t5 t6
    obtain ⟨a4', cap4, hsl⟩ := slice_form (M3.rows.own (oj owj false) hj3.1)
    rw [hsl] at t5
    have rq := M3.reqs o r ho6 hrA3
    obtain ⟨cr, hcr⟩ := rq.blk
    obtain ⟨v5, hv5⟩ : ∃ v5, X2.cell? ⟨r, 5, none⟩ = some v5 := by
      have h11 := rq.exposed
      simp only [World.cell?, hcr] at h11 ⊢
      simp only [Option.isSome_none, Bool.false_eq_true, if_false] at h11 ⊢
      obtain ⟨hl, _⟩ := Array.getElem?_eq_some_iff.1 h11
      exact ⟨cr[5], by simp⟩
    have fr5 : X2.frozen? ⟨r, 5, none⟩ = false := by simp [World.frozen?, hcr]
    have hM5 : ∀ v, Mem W.heap.size en s3 W (X2.setCell ⟨r, 5, none⟩ v) := fun v => M3.setReq ho6 hrA3 (by omega) (by omega) v
    have HM5 := (show Hid _ from hM5)
    have HX := (show Hid _ from And.intro hsl (And.intro cj3 (And.intro hlj (And.intro hj3 hOB))))
    clear M3 hs2 hs3 c6 cj hlj hrA hrA3 hOB fin hsl cj3 hj3 hM5 hcr rq hOBb
    go_upto_region 39 with fail
    have M5 := (show ∀ v, Mem _ _ _ _ _ from HM5.out) (.int .i32 (wrap32 ↑(s3.C (oj owj false)).length))
    clear HM5 t5 t6 hv5 fr5
    generalize X2.setCell ⟨r, 5, none⟩ (.int .i32 (wrap32 ↑(s3.C (oj owj false)).length)) = X5 at M5
    obtain ⟨hsl, cj3, hlj, hj3, hOB⟩ := HX.out
    obtain ⟨t5, t6⟩ := M5.txcells owj false
    simp only [Bool.false_eq_true, if_false] at t5 t6
    rw [← hOB] at t5 t6
    obtain ⟨v3, w3, hap, app⟩ := M5.append (j := oj owj false) hj3.1 (by rw [cj3]; omega) r
    obtain ⟨a3', cap3, rfl⟩ := slice_form app.own
    have M6 := M5.appo owj false app
    simp only [Bool.false_eq_true, if_false] at M6
    rw [← hOB] at M6
    rw [hsl] at t5
    rw [hsl] at hap
    simp only [pt] at hap
    have hOBb : ∃ c, X5.heap[OB]? = some (.cells c 37 (0, 0)) := by
      rw [hOB]
      cases owj
      · exact ⟨_, M5.ux⟩
      · exact ⟨_, M5.tx⟩
    obtain ⟨cb, hcb⟩ := hOBb
    have hfar : w3.heap[OB]? = X5.heap[OB]? := app.far _ (Array.getElem?_eq_some_iff.1 hcb).1 (fun e => by obtain ⟨c, hc⟩ := row_blk (M5.rows.own (oj owj false) hj3.1) e; exact cells_ne hcb hc (by decide) rfl)
    have g5 := (World.cell?_of_block (w := X5) (a := ⟨OB, 2, none⟩) hfar).trans t5
    have g6 : w3.frozen? ⟨OB, 2, none⟩ = false := by simp [World.frozen?, hfar, hcb]
    have HAP := (show Hid _ from hap)
    have HM6 := (show Hid _ from M6)
    clear M5 M6 hOB app hap hsl hfar hcb cj3 hj3 hlj
    go_wp2_with (first | (at_builtin; refine Lib.wpList_append_run _ rfl (.tmp 196) (.tmp 198) 27 27 rfl (.slice a4' (s3.C (oj owj false)).length cap4) (.slice (some ⟨X5.heap.size, 0, none⟩) 1 1) rfl rfl _ _ HAP.out ?_) | go_in)
    go_roundg k
    case measure => omega
    case rel =>
      obtain ⟨p, hth, hfr⟩ := HPP.out
      obtain ⟨fin, _⟩ := HFIN.out
      have M5 : Mem _ _ _ _ _ := HM6.out
      rw [fin] at M5
      exact ⟨j + 1, s1.next o r owj xpj v1 (.slice a2 ((s2.C (6 + o)).length + 1) cap2) (.slice a3' ((s3.C (oj owj false)).length + 1) cap3), by omega, by go_num, M5, p.next ho6 hth hfr⟩
end Go.Proofs.YbulkbhqsDoor
