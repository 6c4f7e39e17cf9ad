/-
  'forget' by a contract. Own work on this program.
-/
import Derived.Test.YbulkbhqsPlace2
import Derived.Test.YbulkbhqsRemove
namespace Go.Proofs.Ybulkbhqs
open Go.RowKit
set_option linter.unusedVariables false

/-- What 'forget' leaves. -/
structure Forgot (ky : Nat → Nat) (Rm r ν t : Nat) (tb : Nat → Option Nat) (l : List Nat) (W W' : World) : Prop where
  tree : ∃ l1 l2 : List Nat, l = l1 ++ r :: l2 ∧ ((l1 ++ l2 = [] ∧ MapIs W' Rm (upd tb ν none)) ∨ ∃ root' n', Boxed W' t 90 (ptr (some root')) ∧ Tr ky W' n' (some root') (l1 ++ l2) ∧ MapIs W' Rm tb)
  kept : Kept (Rm :: t :: l) W W'
  nodes : ∀ x ∈ l, NodeOk ky W' x
  stat : ∀ x ∈ l, ∀ o, o ≠ 22 → o ≠ 23 → o ≠ 25 → W'.cell? ⟨x, o, none⟩ = W.cell? ⟨x, o, none⟩

theorem forgot_pre {ky : Nat → Nat} {Rm t : Nat} {root p' : Option Nat} {tb : Nat → Option Nat} {l : List Nat} {W W2 : World} (hmap : MapIs W Rm tb) (hRt : Rm ≠ t) (hRl : Rm ∉ l) (htl : t ∉ l) (hok : ∀ x ∈ l, NodeOk ky W x)
    (bx2 : Boxed W2 t 90 (ptr root)) (hc : Chg l W.drew W2) :
    MapIs (W2.setCell ⟨t, 0, none⟩ (ptr p')) Rm tb ∧ Boxed (W2.setCell ⟨t, 0, none⟩ (ptr p')) t 90 (ptr p') ∧ Kept (Rm :: t :: l) W (W2.setCell ⟨t, 0, none⟩ (ptr p')) ∧ (∀ x ∈ l, NodeOk ky (W2.setCell ⟨t, 0, none⟩ (ptr p')) x) ∧
      (∀ x ∈ l, (W2.setCell ⟨t, 0, none⟩ (ptr p')).heap[x]? = W2.heap[x]?) ∧ (∀ x ∈ l, ∀ o, o ≠ 22 → o ≠ 23 → o ≠ 25 → (W2.setCell ⟨t, 0, none⟩ (ptr p')).cell? ⟨x, o, none⟩ = W.cell? ⟨x, o, none⟩) := by
  have far : ∀ x ∈ l, (W2.setCell ⟨t, 0, none⟩ (ptr p')).heap[x]? = W2.heap[x]? := fun x hx => Below.heap_setCell _ _ _ _ (fun e => htl (by rw [← show x = t from e]; exact hx))
  refine ⟨hmap.of_block ((Below.heap_setCell _ _ _ _ hRt).trans (hc.blk Rm hRl)), bx2.set _, ?_, fun x hx => ((hok x hx).drew.chg hc).of_block (far x hx), far, fun x hx o h1 h2 h3 => (World.cell?_of_block (w := W2) (a := ⟨x, o, none⟩) (far x hx)).trans (hc.cell x o (.inr ⟨h1, h2, h3⟩))⟩
  exact (hc.kept.drewBack.mono (fun x hx => .inl (by simp [hx]))).trans (Kept.set _ _ _ _ (by simp) _)

set_option maxRecDepth 100000 in
set_option maxHeartbeats 1000000 in
theorem forget_any (ky : Nat → Nat) (M Rm r ν t n : Nat) (root : Option Nat) (tb : Nat → Option Nat) (l : List Nat) (W : World) (cM : W.cell? ⟨M, 5, none⟩ = some (.map (some Rm))) (hMl : M ∉ l) (hMt : M ≠ t) (hmap : MapIs W Rm tb) (hν : ν < 2)
    (hidx : W.cell? ⟨r, 1, none⟩ = some (.string (nms ν))) (hof : W.cell? ⟨r, 21, none⟩ = some (.pointer (some ⟨t, 0, none⟩))) (hok : ∀ x ∈ l, NodeOk ky W x) (hr : r ∈ l)
    (ht : tb ν = some t) (hbx : Boxed W t 90 (ptr root)) (htr : Tr ky W n root l) (hnd : l.Nodup) :
    Calls Yba.prog 17 #[.pointer (some ⟨M, 0, none⟩), .pointer (some ⟨r, 0, none⟩)] W fun e W' => e = .returned (.tuple #[]) ∧ Forgot ky Rm r ν t tb l W W' := by
  have htl : t ∉ l := by
    intro hx
    obtain ⟨c, hc⟩ := (hok t hx).blkc
    have := Option.some.inj ((show W.heap[t]? = _ from hbx).symm.trans hc)
    simp at this
  have hRt : Rm ≠ t := hmap.not_cells hbx
  have hRl : Rm ∉ l := fun hx => by obtain ⟨c, hc⟩ := (hok Rm hx).blkc; exact hmap.not_cells hc rfl
  have hne : t ≠ r := fun e => htl (e ▸ hr)
  have HI := (show Hid _ from remove_any ky r n root l W.drew (htr.of_blocks (fun _ _ => rfl)) hr hnd (fun x hx => (hok x hx).drew))
  have HK := (show Hid _ from hok)
  clear hok
  have bxc := hbx.cell
  go_enter Yba.func17, Yba.ntmps17
  go_wp2_with fail
  go_region_with (go_at_call 22; refine (show Calls _ _ _ _ _ from HI.out).mono ?_; rintro e W2 ⟨p', m, l1, l2, rfl, hl, t2, hc⟩; have d21 : W2.cell? ⟨r, 21, none⟩ = some (.pointer (some ⟨t, 0, none⟩)) := (hc.cell r 21 (.inr (by omega))).trans hof; have bx2 : Boxed W2 t 90 (ptr root) := (hc.blk t htl).trans hbx; have bxc2 := bx2.cell; have bxf2 := bx2.frozen)
  all_goals
    obtain ⟨m3, b3, k3, n3, f3, s3⟩ := forgot_pre (p' := p') hmap hRt hRl htl HK.out bx2 hc
    have e21 : (W2.setCell ⟨t, 0, none⟩ (ptr p')).cell? ⟨r, 21, none⟩ = some (.pointer (some ⟨t, 0, none⟩)) := (s3 r hr 21 (by omega) (by omega) (by omega)).trans hof
    have e1 : (W2.setCell ⟨t, 0, none⟩ (ptr p')).cell? ⟨r, 1, none⟩ = some (.string (nms ν)) := (s3 r hr 1 (by omega) (by omega) (by omega)).trans hidx
    have eM : (W2.setCell ⟨t, 0, none⟩ (ptr p')).cell? ⟨M, 5, none⟩ = some (.map (some Rm)) := (World.cell?_setCell_other _ _ _ _ (by simp)).trans ((hc.cell M 5 (.inl hMl)).trans cM)
    have bt := b3.cell
    have t3 := t2.of_blocks (W' := W2.setCell ⟨t, 0, none⟩ (ptr p')) (fun x hx => f3 x (by rw [hl]; simp at hx ⊢; rcases hx with hx | hx <;> simp [hx]))
    have HE := (show Hid _ from And.intro hl (And.intro k3 (And.intro n3 s3)))
    clear hl n3 f3 s3 hc bxc bxc2 bxf2 d21 hof hidx cM
    generalize W2.setCell ⟨t, 0, none⟩ (ptr p') = W3 at *
    cases p' with
    | none =>
      have hem := t3.of_none
      obtain ⟨es, clock, hdel, hshape⟩ := delete_any (W := W3.drew) (m := Rm) (tb := tb) m3 hν ht
      obtain ⟨es0, clock0, hm0, _⟩ := m3
      have HS := (show Hid _ from And.intro hshape hm0)
      clear hshape hm0
      simp only [ptr, pa] at bt
      go_wp2_with fail
      go_region
      go_end0
      have hm1 : W3.drew.heap[Rm]? = some (.map es0 clock0) := HS.out.2
      have far : ∀ x ∈ l, (W3.drew.putObj Rm (.map es clock)).heap[x]? = W3.heap[x]? := fun x hx => World.putObj_heap_other (fun e => hRl (e ▸ hx))
      exact ⟨rfl, ⟨l1, l2, HE.out.1, .inl ⟨hem, MapIs.put hm1 HS.out.1⟩⟩, HE.out.2.1.drew.trans (Kept.put _ _ _ (by simp) _), fun x hx => (HE.out.2.2.1 x hx).of_block (far x hx), fun x hx o h1 h2 h3 => (World.cell?_of_block (w := W3) (a := ⟨x, o, none⟩) (far x hx)).trans (HE.out.2.2.2 x hx o h1 h2 h3)⟩
    | some b =>
      simp only [ptr, pa] at bt
      go_wp2_with fail
      go_end0
      exact ⟨rfl, ⟨l1, l2, HE.out.1, .inr ⟨b, m, b3, t3, m3⟩⟩, HE.out.2.1, HE.out.2.2.1, HE.out.2.2.2⟩
end Go.Proofs.Ybulkbhqs
