/-
  What one 'settle' does to the queues. Own work on this program.
-/
import Derived.Test.YbulkbhqsDoorStep
namespace Go.Proofs.YbulkbhqsDoor
open Go.RowKit
set_option linter.unusedVariables false

variable {g : Gh} {l : Nat → List Nat} {row : Nat → Value} {inn ex : Nat → Bool} {W W' : World}

theorem anyKey_le {inn inn' : Nat → Bool} (h : ∀ o, inn' o = true → inn o = true) (k : anyKey inn') : anyKey inn := by
  obtain ⟨o, h1, h2, h3⟩ := k
  exact ⟨o, h1, h2, h o h3⟩

theorem QS.maps (h : QS g l row inn ex W) {inn' : Nat → Bool} (hle : ∀ o, inn' o = true → inn o = true) (far : ∀ b, b < W.heap.size → b ≠ g.mt → b ≠ g.kk → (anyKey inn → b ≠ g.mh) → W'.heap[b]? = W.heap[b]?)
    (h1 : MapAs W' g.mt (tabRel g inn')) (h2 : MapAs W' g.kk (keyRel g inn')) (h3 : anyKey inn' → MapAs W' g.mh (homeRel g inn')) : QS g l row inn' ex W' := by
  have cf : ∀ {b : Nat} {c : Array Value} {e : TypeId}, W.heap[b]? = some (.cells c e (0, 0)) → W'.heap[b]? = W.heap[b]? := fun hb =>
    far _ (Array.getElem?_eq_some_iff.1 hb).1 (fun e => h.tables.ne_cells hb e.symm) (fun e => h.keys.ne_cells hb e.symm) (fun a e => (h.home a).ne_cells hb e.symm)
  obtain ⟨cm, hcm⟩ := h.manb
  have em := cf hcm
  refine ⟨(World.cell?_of_block (w := W) (a := ⟨g.m, 2, none⟩) em).trans h.man2, (World.cell?_of_block (w := W) (a := ⟨g.m, 4, none⟩) em).trans h.man4, ⟨cm, em.trans hcm⟩, ?_, ?_, h.rinj, ?_, h.sub, fun o ho hi => h.inTh o ho (hle o hi), h1, h2, h3, h.dist.1, fun a => h.dist.2 (anyKey_le hle a)⟩
  · intro o ho ht; exact (cf (h.queue o ho ht)).trans (h.queue o ho ht)
  · intro o ho ht
    exact owns_of_block (h.rows o ho ht) (fun b hb => by obtain ⟨c, hc⟩ := row_blk (h.rows o ho ht) hb; exact cf hc)
  · intro o r ho hr
    obtain ⟨c, hc⟩ := (h.reqs o r ho hr).blk
    exact (h.reqs o r ho hr).far (cf hc)

theorem tab_strings (g : Gh) (inn : Nat → Bool) : ∀ k v, tabRel g inn k v → ∃ s, k = .string s := by rintro k v ⟨o, _, _, rfl, _⟩; exact ⟨_, rfl⟩
theorem home_strings (g : Gh) (inn : Nat → Bool) : ∀ k v, homeRel g inn k v → ∃ s, k = .string s := by rintro k v ⟨o, _, _, _, rfl, _⟩; exact ⟨_, rfl⟩
theorem key_strings (g : Gh) (inn : Nat → Bool) : ∀ k v, keyRel g inn k v → ∃ s, k = .string s := by rintro k v ⟨rfl, _⟩; exact ⟨_, rfl⟩

/-- The blocks that a 'settle' of o writes. -/
def setl (g : Gh) (o : Nat) : List Nat := if o < 3 then [g.mt] else [g.kk, g.mh]

theorem tab_upd {o : Nat} (ho : o < 3) (k v : Value) : (k ≠ .string (nmb o) ∧ tabRel g inn k v) ↔ tabRel g (upd inn o false) k v := by
  constructor
  · rintro ⟨hne, o', h1, h2, rfl, h4⟩
    have : o' ≠ o := fun e => hne (by rw [e])
    exact ⟨o', h1, by rw [upd_other _ _ this]; exact h2, rfl, h4⟩
  · rintro ⟨o', h1, h2, rfl, h4⟩
    have : o' ≠ o := by rintro rfl; rw [upd_same] at h2; cases h2
    rw [upd_other _ _ this] at h2
    exact ⟨fun e => this (nmb_inj h1 ho (by simpa using e)), o', h1, h2, rfl, h4⟩

theorem tab_key {o : Nat} (ho : 3 ≤ o) (k v : Value) : tabRel g inn k v ↔ tabRel g (upd inn o false) k v := by
  constructor
  · rintro ⟨o', h1, h2, h3, h4⟩
    exact ⟨o', h1, by rw [upd_other _ _ (by omega)]; exact h2, h3, h4⟩
  · rintro ⟨o', h1, h2, h3, h4⟩
    exact ⟨o', h1, by rw [upd_other _ _ (by omega)] at h2; exact h2, h3, h4⟩

theorem any_tab {o : Nat} (ho : o < 3) : anyKey inn ↔ anyKey (upd inn o false) := by
  constructor <;> rintro ⟨o', h1, h2, h3⟩
  · exact ⟨o', h1, h2, by rw [upd_other _ _ (by omega)]; exact h3⟩
  · exact ⟨o', h1, h2, by rw [upd_other _ _ (by omega)] at h3; exact h3⟩

theorem key_tab {o : Nat} (ho : o < 3) (k v : Value) : keyRel g inn k v ↔ keyRel g (upd inn o false) k v := by
  unfold keyRel
  rw [any_tab (inn := inn) ho]

theorem home_tab {o : Nat} (ho : o < 3) (k v : Value) : homeRel g inn k v ↔ homeRel g (upd inn o false) k v := by
  constructor <;> rintro ⟨o', h1, h2, h3, h4⟩
  · exact ⟨o', h1, h2, by rw [upd_other _ _ (by omega)]; exact h3, h4⟩
  · exact ⟨o', h1, h2, by rw [upd_other _ _ (by omega)] at h3; exact h3, h4⟩

theorem home_upd {o : Nat} (ho3 : 3 ≤ o) (ho : o < 6) (k v : Value) : (k ≠ .string (nmb (o - 3)) ∧ homeRel g inn k v) ↔ homeRel g (upd inn o false) k v := by
  constructor
  · rintro ⟨hne, o', h1, h2, h3, rfl, h4⟩
    have : o' ≠ o := fun e => hne (by rw [e])
    exact ⟨o', h1, h2, by rw [upd_other _ _ this]; exact h3, rfl, h4⟩
  · rintro ⟨o', h1, h2, h3, rfl, h4⟩
    have : o' ≠ o := by rintro rfl; rw [upd_same] at h3; cases h3
    rw [upd_other _ _ this] at h3
    exact ⟨fun e => this (by have := nmb_inj (i := o' - 3) (j := o - 3) (by omega) (by omega) (by simpa using e); omega), o', h1, h2, h3, rfl, h4⟩

theorem any_home : (¬ ∀ k v, ¬ homeRel g inn k v) ↔ anyKey inn := by
  constructor
  · intro h
    apply Classical.byContradiction
    intro hn
    exact h (fun k v ⟨o, h1, h2, h3, _⟩ => hn ⟨o, h1, h2, h3⟩)
  · rintro ⟨o, h1, h2, h3⟩ h
    exact h _ _ ⟨o, h1, h2, h3, rfl, rfl⟩

theorem upd_le (o : Nat) : ∀ o', upd inn o false o' = true → inn o' = true := by
  intro o' h
  by_cases e : o' = o
  · subst e; rw [upd_same] at h; cases h
  · rwa [upd_other _ _ e] at h

theorem forget_step (h : QS g l row inn ex W) (s : Stt g) {o : Nat} (ho : o < 6) (hin : inn o = true) :
    Calls Ybad.prog 39 #[.pointer (some ⟨g.m, 2, none⟩), pt (g.q o)] W fun e W' => e = .returned (.tuple #[]) ∧ QS g l row (upd inn o false) ex W' ∧ Kept (setl g o) W W' := by
  have hth := h.inTh o ho hin
  have hq := h.queue o ho hth
  by_cases h3 : o < 3
  · have hq' : ∃ a b, W.heap[g.q o]? = some (.cells #[.string (nmb o), .string (idK o), .int .i8 0, .bool true, a, b] 51 (0, 0)) := by
      simp only [idN, idP, idT, h3, if_true] at hq
      exact ⟨_, _, hq⟩
    refine (forget_table g.m g.mt (g.q o) (nmb o) (.string (idK o)) (tabRel g inn) W h.man2 h.tables (tab_strings g inn) hq').mono ?_
    rintro e W' ⟨rfl, hm, hk⟩
    have far : ∀ b, b < W.heap.size → b ≠ g.mt → W'.heap[b]? = W.heap[b]? := fun b hb hne => hk.blk b hb (by simp [hne])
    refine ⟨rfl, h.maps (upd_le o) (fun b hb h1 _ _ => far b hb h1) (hm.congr (fun k v => tab_upd h3 k v)) ?_ ?_, by simp only [setl, if_pos h3]; exact hk⟩
    · exact (h.keys.same (far _ h.keys.lt (Ne.symm h.dist.1))).congr (fun k v => key_tab h3 k v)
    · intro a
      have a' := (any_tab (inn := inn) h3).2 a
      exact ((h.home a').same (far _ (h.home a').lt (h.dist.2 a').2)).congr (fun k v => home_tab h3 k v)
  · have h3' : 3 ≤ o := by omega
    have hany : anyKey inn := ⟨o, h3', ho, hin⟩
    have hq' : ∃ a b, W.heap[g.q o]? = some (.cells #[.string ⟨#[105]⟩, .string (nmb (o - 3)), .int .i8 1, .bool false, a, b] 51 (0, 0)) := by
      simp only [idN, idK, idP, idT, h3, if_false] at hq
      exact ⟨_, _, hq⟩
    obtain ⟨cm, hcm⟩ := h.manb
    refine (forget_key g.m g.kk g.mh (g.q o) ⟨#[105]⟩ (nmb (o - 3)) (homeRel g inn) (keyRel g inn) W h.man4 h.keys (key_strings g inn) ⟨rfl, rfl, hany⟩ (h.home hany) (home_strings g inn) (h.dist.2 hany).1 (fun e => h.keys.ne_cells hcm e.symm) (fun e => (h.home hany).ne_cells hcm e.symm) hq').mono ?_
    rintro e W' ⟨rfl, hm, hd, hk⟩
    have far : ∀ b, b < W.heap.size → b ≠ g.kk → b ≠ g.mh → W'.heap[b]? = W.heap[b]? := fun b hb h1 h2 => hk.blk b hb (by simp [h1, h2])
    have hm' : MapAs W' g.mh (homeRel g (upd inn o false)) := hm.congr (fun k v => home_upd h3' ho k v)
    have hiff : (∀ k' v', ¬ (k' ≠ .string (nmb (o - 3)) ∧ homeRel g inn k' v')) ↔ ∀ k v, ¬ homeRel g (upd inn o false) k v := by
      constructor <;> intro hh k v hv
      · exact hh k v ((home_upd h3' ho k v).2 hv)
      · exact hh k v ((home_upd h3' ho k v).1 hv)
    refine ⟨rfl, h.maps (upd_le o) (fun b hb _ h1 h2 => far b hb h1 (h2 hany)) ?_ ?_ (fun _ => hm'), by simp only [setl, if_neg h3]; exact hk⟩
    · exact (h.tables.same (far _ h.tables.lt h.dist.1 (Ne.symm (h.dist.2 hany).2))).congr (fun k v => tab_key h3' k v)
    · rcases hd with ⟨he, hk'⟩ | ⟨he, hk'⟩
      · rw [hiff] at he
        refine hk'.congr (fun k v => ?_)
        constructor
        · rintro ⟨hne, h1, _⟩; exact absurd h1 hne
        · rintro ⟨h1, h2, a⟩; exact absurd he (any_home.2 a)
      · rw [hiff] at he
        refine hk'.congr (fun k v => ?_)
        have a := any_home.1 he
        exact ⟨fun ⟨h1, h2, _⟩ => ⟨h1, h2, a⟩, fun ⟨h1, h2, _⟩ => ⟨h1, h2, hany⟩⟩

/-- One 'settle'. -/
theorem settle_step (h : QS g l row inn ex W) (s : Stt g) {o : Nat} (ho : o < 6) (hin : inn o = true) :
    Calls Ybad.prog 12 #[pt g.m, pt (g.q o)] W fun e W' => e = .returned (.tuple #[]) ∧ (QS g l row (if l o = [] then upd inn o false else inn) ex W' ∧ Kept (setl g o) W W') := by
  refine settle_any (R := fun W' => QS g l row (if l o = [] then upd inn o false else inn) ex W' ∧ Kept (setl g o) W W') (h.calm s ho (h.inTh o ho hin)) (fun he => ?_) (fun he => ?_)
  · rw [if_pos he]; exact forget_step h s ho hin
  · rw [if_neg he]; exact ⟨h, Kept.refl _ _⟩
end Go.Proofs.YbulkbhqsDoor
