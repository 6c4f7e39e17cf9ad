/-
  The law's walk, part D: a new queue. Own work on this program.
-/
import Derived.Test.YbulkbhqsDoorLawC
namespace Go.Proofs.YbulkbhqsDoor
open Go.RowKit
set_option linter.unusedVariables false

theorem map_eql (b : Nat) (w : World) : (binOp .eql 52 (.map (some b)) (.map none)).run Ybad.prog w = .ok (.bool false) w := by
  have h : ∀ d : Nat, (Op.equalIn (d + 1) 52 (.map (some b)) (.map none)).run Ybad.prog w = .ok false w := fun d => by simp [Op.equalIn, run_underlying Ybad.underlying52]
  simp only [binOp]
  simp [Op.equal, Op.maxDepth, h 9999]
theorem map_eql0 (w : World) : (binOp .eql 52 (.map none) (.map none)).run Ybad.prog w = .ok (.bool true) w := by
  have h : ∀ d : Nat, (Op.equalIn (d + 1) 52 (.map none) (.map none)).run Ybad.prog w = .ok true w := fun d => by simp [Op.equalIn, run_underlying Ybad.underlying52]
  simp only [binOp]
  simp [Op.equal, Op.maxDepth, h 9999]

set_option maxRecDepth 100000 in
set_option maxHeartbeats 4000000 in
theorem partD : partC.1 := by
  delta partC
  dsimp only
  set_option tactic.hygienic false in intros
  have HO := (show Hid _ from fun w => obj_any o ho6 w)
  go_wp2_with fail
  refine (show Calls _ _ _ _ _ from HO.out _).mono ?_
  rintro e W2 ⟨rfl, k2⟩
  obtain ⟨M1, p, hop⟩ := HP.out
  have M2 := M1.kept k2
  have hop2 := (k2.blk _ (Array.getElem?_eq_some_iff.1 hop).1 (by simp)).trans hop
  have M3 := M2.kept (Kept.alloc [] W2 (.cells #[.string (idN o), .string (idK o), .int .i8 (idP o), .bool (idT o), .slice none 0 0, .pointer none] 51 (0, 0)))
  obtain ⟨b1, b2, b3, b4, b5, b6⟩ := M3.cells ho6
  rw [hth] at b1
  simp only [Bool.false_eq_true, if_false] at b1
  have M4 := M2.newq ho6 hth (p.nth o ho6 hth).2 (p.nth o ho6 hth).1 (by rw [p.inn o ho6]; exact hth) rfl
  have hop4 : ((W2.alloc (.cells #[.string (idN o), .string (idK o), .int .i8 (idP o), .bool (idT o), .slice none 0 0, .pointer none] 51 (0, 0))).setCell ⟨W.heap.size + 8, o, none⟩ (pt W2.heap.size)).heap[p11]? = some (.cells #[.bool owj, .int .u8 obj, .int .u8 mdj, .bool xpj] 42 (0, 0)) := by
    obtain ⟨ca, _, _, hca⟩ := M2.arr
    exact (Below.heap_setCell _ _ _ _ (cells_ne hop2 hca (by decide))).trans ((Below.heap_alloc _ _ _ (Array.getElem?_eq_some_iff.1 hop2).1).trans hop2)
  have HQ := (show Hid _ from And.intro M4 (And.intro p hop4))
  clear M1 M2 M3 M4 p hop hop2 hop4 b2 b4 q3 q5 q6
  simp only [pt] at HQ
  go_upto_if 67 with fail
  generalize (W2.alloc (.cells #[.string (idN o), .string (idK o), .int .i8 (idP o), .bool (idT o), .slice none 0 0, .pointer none] 51 (0, 0))).setCell ⟨W.heap.size + 8, o, none⟩ (.pointer (some ⟨W2.heap.size, 0, none⟩)) = W4 at HQ
  generalize W2.heap.size = qn at HQ
  clear b1 b3 b5 b6 HP HO k2
  obtain ⟨M4, p, hop4⟩ := HQ.out
  obtain ⟨-, -, -, -, m2, m4⟩ := M4.cells ho6
  have hqb := M4.queue o ho6 (upd_same _ _ _)
  simp only [upd_same] at hqb
  obtain ⟨c0, c1, -, -, -, -⟩ := cells6 hqb
  by_cases h3 : o < 3
  · have h3i : ((o : Int) < 3) := by omega
    obtain ⟨es, clock, hb, hent⟩ := M4.tables
    have hN : idN o = nmb o := by simp [idN, h3]
    rw [hN] at c0
    obtain ⟨es', clock', hup, hent'⟩ := update_as (W := W4.drew) (v := .pointer (some ⟨qn, 0, none⟩)) Ybad.underlying52 hb hent (hent.keyOk (tab_strings _ _) _ (nmb o))
    have hbig := M4.big
    have M5 := M4.kept (w' := W4.drew) ((Kept.refl [] W4).drew)
    have M6 := M5.putTable h3 (upd_same _ _ _) rfl (by simpa only [upd_same, pt] using hent')
    have hop6 : (W4.drew.putObj (W.heap.size + 1) (.map es' clock')).heap[p11]? = some (.cells #[.bool owj, .int .u8 obj, .int .u8 mdj, .bool xpj] 42 (0, 0)) := (World.putObj_heap_other (fun e => by have := M4.tables.ne_cells hop4; omega)).trans hop4
    have p6 := p.newq (qn := qn) (mh := s.mh) ho6 hth
    have m2' := (M6.cells ho6).2.2.2.2.1
    have c0' : (W4.drew.putObj (W.heap.size + 1) (.map es' clock')).cell? ⟨qn, 0, none⟩ = some (.string (nmb o)) := (World.cell?_of_block (w := W4) (a := ⟨qn, 0, none⟩) (World.putObj_heap_other (fun e => M4.tables.ne_cells hqb e.symm))).trans c0
    have HR := (show Hid _ from And.intro M6 (And.intro p6 hop6))
    clear M4 M5 M6 p p6 hop4 hop6 hqb c1 m4 hb hent hent' HQ hbig
    go_wp2_with fail
    go_region_held3 (fun w' => w'.cell? ⟨W.heap.size + 5, 2, none⟩ = some (.map (some (W.heap.size + 1))) ∧ w'.cell? ⟨qn, 0, none⟩ = some (.string (nmb o))) (first | go_keep | exact ⟨m2', c0'⟩) (fail)
    go_wp2
    go_meet
    exact ⟨_, HR.out.1, HR.out.2.1, upd_same _ _ _, HR.out.2.2⟩
  · have h3i : ¬ ((o : Int) < 3) := by omega
    have h3' : 3 ≤ o := by omega
    have hK : idK o = nmb (o - 3) := by simp [idK, h3]
    rw [hK] at c1
    obtain ⟨esk, clockk, hbk, hentk⟩ := M4.keys
    have hpm : ∀ {b' : Nat} {f : Value → Value → Prop}, MapAs W4 b' f → p11 ≠ b' := fun hm e => hm.ne_cells hop4 e.symm
    have hqm : ∀ {b' : Nat} {f : Value → Value → Prop}, MapAs W4 b' f → qn ≠ b' := fun hm e => hm.ne_cells hqb e.symm
    by_cases ha : anyKey s.inn
    · have hl := (lookup_some Ybad.underlying53 hbk hentk (hentk.keyOk (key_strings _ _) W4 ⟨#[105]⟩) (v := .map (some s.mh)) ⟨rfl, rfl, ha⟩).1
      obtain ⟨es, clock, hb, hent⟩ := M4.home ha
      obtain ⟨es', clock', hup, hent'⟩ := update_as (W := W4) (v := .pointer (some ⟨qn, 0, none⟩)) Ybad.underlying52 hb hent (hent.keyOk (home_strings _ _) _ (nmb (o - 3)))
      have M6 := M4.putKey h3' ho6 (upd_same _ _ _) ha rfl (by simpa only [upd_same, pt] using hent')
      have hop6 : (W4.putObj s.mh (.map es' clock')).heap[p11]? = some (.cells #[.bool owj, .int .u8 obj, .int .u8 mdj, .bool xpj] 42 (0, 0)) := (World.putObj_heap_other (hpm (M4.home ha))).trans hop4
      have p6 := p.newq (qn := qn) (mh := s.mh) ho6 hth
      have HR := (show Hid _ from And.intro M6 (And.intro p6 hop6))
      clear M4 M6 p p6 hop4 hop6 hqb c0 m2 hb hent hent' HQ hbk hentk hpm hqm
      have hme := map_eql s.mh
      go_wp2_with fail
      go_meet
      exact ⟨_, HR.out.1, HR.out.2.1, upd_same _ _ _, HR.out.2.2⟩
    · have hl := (lookup_none Ybad.underlying53 hbk hentk (hentk.keyOk (key_strings _ _) W4 ⟨#[105]⟩) (fun v ⟨_, _, a⟩ => ha a) (zero52 W4)).1
      have hlt : W.heap.size + 3 < W4.heap.size := by have := M4.big; omega
      have hbk2 : (W4.alloc (.map #[] 0)).heap[W.heap.size + 3]? = some (.map esk clockk) := (Below.heap_alloc _ _ _ hlt).trans hbk
      obtain ⟨es1, clock1, hup1, hent1⟩ := update_as (W := W4.alloc (.map #[] 0)) (v := .map (some W4.heap.size)) Ybad.underlying53 hbk2 hentk (hentk.keyOk (key_strings _ _) _ ⟨#[105]⟩)
      have hbh : ((W4.alloc (.map #[] 0)).putObj (W.heap.size + 3) (.map es1 clock1)).heap[W4.heap.size]? = some (.map #[] 0) := (World.putObj_heap_other (by omega)).trans (heap_alloc_new _ _)
      obtain ⟨es2, clock2, hup2, hent2⟩ := update_as (W := (W4.alloc (.map #[] 0)).putObj (W.heap.size + 3) (.map es1 clock1)) (v := .pointer (some ⟨qn, 0, none⟩)) Ybad.underlying52 hbh (EntAs.empty (fun _ _ => False) (fun _ _ h => h)) (EntAs.keyOk (EntAs.empty (fun _ _ => False) (fun _ _ h => h)) (fun _ _ h => h.elim) _ (nmb (o - 3)))
      have M6 := M4.putFirst h3' ho6 (upd_same _ _ _) ha rfl hent1 (by simpa only [upd_same, pt] using hent2)
      have hfar : ∀ b', b' < W4.heap.size → b' ≠ W.heap.size + 3 → ((W4.alloc (.map #[] 0)).putObj (W.heap.size + 3) (.map es1 clock1)).heap[b']? = W4.heap[b']? := fun b' hb' hne => (World.putObj_heap_other hne).trans (Below.heap_alloc _ _ _ hb')
      have hpl := (Array.getElem?_eq_some_iff.1 hop4).1
      have hql := (Array.getElem?_eq_some_iff.1 hqb).1
      have hop6 : (((W4.alloc (.map #[] 0)).putObj (W.heap.size + 3) (.map es1 clock1)).putObj W4.heap.size (.map es2 clock2)).heap[p11]? = some (.cells #[.bool owj, .int .u8 obj, .int .u8 mdj, .bool xpj] 42 (0, 0)) := (World.putObj_heap_other (by omega)).trans ((hfar _ hpl (hpm M4.keys)).trans hop4)
      have c1' : ((W4.alloc (.map #[] 0)).putObj (W.heap.size + 3) (.map es1 clock1)).cell? ⟨qn, 1, none⟩ = some (.string (nmb (o - 3))) := (World.cell?_of_block (w := W4) (a := ⟨qn, 1, none⟩) (hfar _ hql (hqm M4.keys))).trans c1
      have m4' : (W4.alloc (.map #[] 0)).cell? ⟨W.heap.size + 5, 4, none⟩ = some (.map (some (W.heap.size + 3))) := (World.cell?_of_block (w := W4) (a := ⟨W.heap.size + 5, 4, none⟩) (Below.heap_alloc _ _ _ (show W.heap.size + 5 < W4.heap.size by have := M4.big; omega))).trans m4
      have p6 := p.newq (qn := qn) (mh := W4.heap.size) ho6 hth
      have HR := (show Hid _ from And.intro M6 (And.intro p6 hop6))
      have hme := map_eql0
      have hmm := @run_makeMap Ybad.prog
      clear M4 M6 p p6 hop4 hop6 hqb c0 m2 hent1 hent2 HQ hbk hbk2 hentk hpm hqm hfar hbh
      go_wp2_with fail
      go_meet
      exact ⟨_, HR.out.1, HR.out.2.1, upd_same _ _ _, HR.out.2.2⟩
end Go.Proofs.YbulkbhqsDoor
