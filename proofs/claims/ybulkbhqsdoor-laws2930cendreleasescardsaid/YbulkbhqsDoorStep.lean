/-
  What one 'remove' and one 'settle' do to the queues. Own work on this program.
-/
import Derived.Test.YbulkbhqsDoorState
namespace Go.Proofs.YbulkbhqsDoor
open Go.RowKit
set_option linter.unusedVariables false

variable {g : Gh} {l : Nat → List Nat} {row : Nat → Value} {inn ex : Nat → Bool} {W W' : World}

theorem erase_filter {l : List Nat} (h : l.Nodup) {i r : Nat} (hi : l[i]? = some r) : l.eraseIdx i = l.filter (fun x => x != r) := by
  obtain ⟨hlt, rfl⟩ := List.getElem?_eq_some_iff.1 hi
  rw [← h.erase_eq_filter, List.erase_eq_eraseIdx_of_idxOf]
  exact (h.idxOf_getElem i hlt).symm ▸ rfl

/-- The world behind 'remove', told block by block. -/
structure Removed (g : Gh) (l : Nat → List Nat) (row : Nat → Value) (o r : Nat) (v' : Value) (W W' : World) : Prop where
  kept : ∀ b, b < W.heap.size → b ≠ g.t → b ≠ r → b ≠ g.q o → (row o).ownBlock ≠ some b → W'.heap[b]? = W.heap[b]?
  size : W.heap.size ≤ W'.heap.size
  env : W'.os = W.os ∧ W'.tape = W.tape ∧ W'.output = W.output
  blk' : v'.ownBlock = (row o).ownBlock
  owns : W'.ownsRow g.base 29 1 v' ((l o).filter (fun x => x != r)).length (ptrs ((l o).filter (fun x => x != r)))
  que : W'.heap[g.q o]? = some (.cells #[.string (idN o), .string (idK o), .int .i8 (idP o), .bool (idT o), v', .pointer none] 51 (0, 0))
  req : Req g W' r o false

theorem QS.removed (h : QS g l row inn ex W) (s : Stt g) {o r : Nat} (ho : o < 6) (hr : r ∈ l o) {ct : Array Value} (hct : W.heap[g.t]? = some (.cells ct 37 (0, 0))) {v' : Value} (k : Removed g l row o r v' W W') :
    QS g (upd l o ((l o).filter (fun x => x != r))) (upd row o v') inn (upd ex r false) W' := by
  have hra := (h.sub o ho).subset hr
  have hth := s.there o r ho hra
  obtain ⟨cr, hcr⟩ := (h.reqs o r ho hra).blk
  have hq := h.queue o ho hth
  have far : ∀ b, b < W.heap.size → b ≠ g.t → b ≠ r → b ≠ g.q o → (row o).ownBlock ≠ some b → W'.heap[b]? = W.heap[b]? := k.kept
  have rowb : ∀ b, (row o).ownBlock = some b → ∃ c, W.heap[b]? = some (.cells c 29 (0, 0)) := fun b hb => row_blk (h.rows o ho hth) hb
  have mapFar : ∀ {b : Nat} {f : Value → Value → Prop}, MapAs W b f → W'.heap[b]? = W.heap[b]? := by
    intro b f hm
    refine far b hm.lt (fun e => hm.ne_cells hct e) (fun e => hm.ne_cells hcr e) (fun e => hm.ne_cells hq e) (fun e => ?_)
    obtain ⟨c, hc⟩ := rowb b e
    exact hm.ne_cells hc rfl
  have cellFar : ∀ {b : Nat} {c : Array Value} {e : TypeId}, W.heap[b]? = some (.cells c e (0, 0)) → e ≠ 37 → e ≠ 29 → b ≠ r → b ≠ g.q o → W'.heap[b]? = W.heap[b]? := by
    intro b c e hb h37 h29 h1 h2
    refine far b (Array.getElem?_eq_some_iff.1 hb).1 (cells_ne hb hct h37) h1 h2 (fun hw => ?_)
    obtain ⟨c', hc'⟩ := rowb b hw
    exact cells_ne hb hc' h29 rfl
  obtain ⟨cm, hcm⟩ := h.manb
  have em := cellFar hcm (by decide) (by decide) (cells_ne hcm hcr (by decide)) (cells_ne hcm hq (by decide))
  refine ⟨(World.cell?_of_block (w := W) (a := ⟨g.m, 2, none⟩) em).trans h.man2, (World.cell?_of_block (w := W) (a := ⟨g.m, 4, none⟩) em).trans h.man4, ⟨cm, em.trans hcm⟩, ?_, ?_, ?_, ?_, ?_, h.inTh, h.tables.same (mapFar h.tables), h.keys.same (mapFar h.keys), fun a => (h.home a).same (mapFar (h.home a)), h.dist⟩
  · intro o' ho' ht'
    by_cases e : o' = o
    · subst e; rw [upd_same]; exact k.que
    · rw [upd_other _ _ e]
      have hq' := h.queue o' ho' ht'
      exact (cellFar hq' (by decide) (by decide) (cells_ne hq' hcr (by decide)) (fun e' => e (s.qinj o' o ho' ho ht' hth e'))).trans hq'
  · intro o' ho' ht'
    by_cases e : o' = o
    · subst e; rw [upd_same, upd_same]; exact k.owns
    · rw [upd_other _ _ e, upd_other _ _ e]
      refine owns_of_block (h.rows o' ho' ht') (fun b hb => ?_)
      obtain ⟨c, hc⟩ := row_blk (h.rows o' ho' ht') hb
      exact far b (Array.getElem?_eq_some_iff.1 hc).1 (cells_ne hc hct (by decide)) (cells_ne hc hcr (by decide)) (cells_ne hc hq (by decide)) (fun hw => h.rinj o' o ho' ho ht' hth e b hb hw)
  · intro o1 o2 h1 h2 t1 t2 hne b
    by_cases e1 : o1 = o
    · subst e1
      rw [upd_same, upd_other _ _ (Ne.symm hne), k.blk']
      exact h.rinj o1 o2 h1 h2 t1 t2 hne b
    · rw [upd_other _ _ e1]
      by_cases e2 : o2 = o
      · subst e2; rw [upd_same, k.blk']; exact h.rinj o1 o2 h1 h2 t1 t2 hne b
      · rw [upd_other _ _ e2]; exact h.rinj o1 o2 h1 h2 t1 t2 hne b
  · intro o' r' ho' hr'
    by_cases e : r' = r
    · subst e
      rw [upd_same]
      have : o' = o := s.disj o' o r' ho' ho hr' hra
      subst this
      exact k.req
    · rw [upd_other _ _ e]
      obtain ⟨c', hc'⟩ := (h.reqs o' r' ho' hr').blk
      exact (h.reqs o' r' ho' hr').far (cellFar hc' (by decide) (by decide) e (cells_ne hc' hq (by decide)))
  · intro o' ho'
    by_cases e : o' = o
    · subst e; rw [upd_same]; exact List.filter_sublist.trans (h.sub o' ho')
    · rw [upd_other _ _ e]; exact h.sub o' ho'

/-- One 'remove'. -/
theorem remove_step (h : QS g l row inn ex W) (s : Stt g) {o r : Nat} (ho : o < 6) (hr : r ∈ l o) (hown : g.own r = true) {ct : Array Value} (hct : W.heap[g.t]? = some (.cells ct 37 (0, 0))) {k : Nat} (hk : W.cell? ⟨g.t, 11, none⟩ = some (.int .i64 k)) (hk1 : k ≤ 1024) (hx : ex r = true → 0 < k) :
    Calls Ybad.prog 8 #[pt (g.q o), pt r] W fun e W' => e = .returned (.tuple #[]) ∧ ∃ v', Removed g l row o r v' W W' ∧
      W'.heap[g.t]? = (if ex r = true then W.setCell ⟨g.t, 11, none⟩ (.int .i64 ((k - 1 : Nat) : Int)) else W).heap[g.t]? := by
  have hra := (h.sub o ho).subset hr
  have hth := s.there o r ho hra
  have hq := h.queue o ho hth
  have rq := h.reqs o r ho hra
  obtain ⟨cr, hcr⟩ := rq.blk
  have hnd : (l o).Nodup := (h.sub o ho).nodup (s.nodup o ho)
  obtain ⟨i, hi⟩ := List.getElem?_of_mem hr
  have hpos : 0 < (l o).length := List.length_pos_of_mem hr
  obtain ⟨gb, cap, hv⟩ := owns_succ (h.rows o ho hth) hpos
  have hrow : W.ownsRow g.base 29 1 (.slice (some ⟨gb, 0, none⟩) (l o).length cap) (l o).length (ptrs (l o)) := hv ▸ h.rows o ho hth
  have hlen : (l o).length - 1 = ((l o).filter (fun x => x != r)).length := by
    rw [← erase_filter hnd hi, List.length_eraseIdx, if_pos (List.getElem?_eq_some_iff.1 hi).1]
  have pre : ∀ x, ex r = x → RemPre (g.q o) r g.t gb cap i g.base (l o) x k W := fun x hx' => {
    lines := (cells6 hq).2.2.2.2.2
    reqs := by rw [← hv]; exact (cells6 hq).2.2.2.2.1
    row := hrow
    hi := hi
    first := fun j hj e => by
      have := (List.getElem?_inj (List.getElem?_eq_some_iff.1 e).1 hnd).1 (e.trans hi.symm)
      omega
    blk := fun x hx => (h.reqs o x ho ((h.sub o ho).subset hx)).blk
    bQ := ⟨_, hq⟩
    bt := ⟨_, hct⟩
    granted := rq.granted
    exposed := hx' ▸ rq.exposed
    txn := by have := rq.txn; rw [hown] at this; exact this
    cnt := hk
    k0 := by omega
    k1 := by omega
    len := Nat.le_trans (h.sub o ho).length_le (Nat.le_trans (s.len o ho) (by decide)) }
  obtain ⟨cg, hcg⟩ := row_blk hrow rfl
  have hQr : g.q o ≠ r := cells_ne hq hcr (by decide)
  have hQg : g.q o ≠ gb := cells_ne hq hcg (by decide)
  have hQt : g.q o ≠ g.t := cells_ne hq hct (by decide)
  have hrg : r ≠ gb := cells_ne hcr hcg (by decide)
  have hrt : r ≠ g.t := cells_ne hcr hct (by decide)
  have htg : g.t ≠ gb := cells_ne hct hcg (by decide)
  have hob : (row o).ownBlock = some gb := by rw [hv]; rfl
  have main : ∀ V W1 : World, (∀ b, b ≠ r → b ≠ g.t → V.heap[b]? = W.heap[b]?) → V.heap.size = W.heap.size → V.os = W.os ∧ V.tape = W.tape ∧ V.output = W.output → Req g V r o false →
      W1.ownsRow g.base 29 1 (.slice (some ⟨gb, 0, none⟩) ((l o).length - 1) cap) ((l o).length - 1) (ptrs ((l o).eraseIdx i)) → Kept [gb] V W1 →
      Removed g l row o r (.slice (some ⟨gb, 0, none⟩) ((l o).length - 1) cap) W (W1.setCell ⟨g.q o, 4, none⟩ (.slice (some ⟨gb, 0, none⟩) ((l o).length - 1) cap)) ∧
      (W1.setCell ⟨g.q o, 4, none⟩ (.slice (some ⟨gb, 0, none⟩) ((l o).length - 1) cap)).heap[g.t]? = V.heap[g.t]? := by
    intro V W1 hV hs he hR hO hK
    have hltt : g.t < V.heap.size := hs ▸ (Array.getElem?_eq_some_iff.1 hct).1
    have hltr : r < V.heap.size := hs ▸ (Array.getElem?_eq_some_iff.1 hcr).1
    have hltq : g.q o < V.heap.size := hs ▸ (Array.getElem?_eq_some_iff.1 hq).1
    have sc : ∀ b, b ≠ g.q o → (W1.setCell ⟨g.q o, 4, none⟩ (.slice (some ⟨gb, 0, none⟩) ((l o).length - 1) cap)).heap[b]? = W1.heap[b]? := fun b hb => Below.heap_setCell _ _ _ _ hb
    have hq1 : W1.heap[g.q o]? = _ := (hK.blk _ hltq (by simp [hQg])).trans ((hV _ hQr hQt).trans hq)
    refine ⟨{ kept := fun b hb h1 h2 h3 h4 => ?_, size := ?_, env := ?_, blk' := hob ▸ rfl, owns := ?_, que := ?_, req := ?_ }, ?_⟩
    · rw [sc b h3, hK.blk b (by omega) (fun hm => h4 (by rw [hob]; simp at hm; rw [hm])), hV b h2 h1]
    · show W.heap.size ≤ (W1.setCell _ _).heap.size
      have := hK.size
      simp [World.setCell]
      omega
    · exact ⟨hK.os.trans he.1, hK.tape.trans he.2.1, hK.output.trans he.2.2⟩
    · rw [← hlen, ← erase_filter hnd hi]
      exact owns_of_block hO (fun b hb => sc b (fun e => hQg (by simpa [Value.ownBlock, e] using hb.symm)))
    · obtain ⟨hlt, hkk⟩ := Array.getElem?_eq_some_iff.1 hq1
      show (W1.heap.modify (g.q o) _)[g.q o]? = _
      rw [Array.getElem?_eq_getElem (by rw [Array.size_modify]; exact hlt), Array.getElem_modify_self, hkk]
      rfl
    · exact hR.far ((sc r (Ne.symm hQr)).trans (hK.blk r hltr (by simp [hrg])))
    · exact (sc g.t (Ne.symm hQt)).trans (hK.blk _ hltt (by simp [htg]))
  cases hxr : ex r with
  | false =>
    refine (remove_off (pre false hxr)).mono ?_
    rintro e W' ⟨rfl, W1, hO, hK, rfl⟩
    have rq' := rq
    rw [hxr] at rq'
    obtain ⟨k1, k2⟩ := main W W1 (fun _ _ _ => rfl) rfl ⟨rfl, rfl, rfl⟩ rq' hO hK
    exact ⟨rfl, _, k1, by simpa using k2⟩
  | true =>
    refine (remove_on (pre true hxr)).mono ?_
    rintro e W' ⟨rfl, W1, hO, hK, rfl⟩
    have hk0 := hx hxr
    have ek : ((k : Int) - 1) = ((k - 1 : Nat) : Int) := by omega
    rw [ek] at hK
    obtain ⟨c', hc'⟩ := setCell_isc W ⟨r, 11, none⟩ (.bool false) cr 72 (0, 0) hcr
    have hR1 : Req g (W.setCell ⟨r, 11, none⟩ (.bool false)) r o false := by
      refine ⟨⟨c', hc'⟩, (World.cell?_setCell_other _ _ _ _ (by simp)).trans rq.txn, (World.cell?_setCell_other _ _ _ _ (by simp)).trans rq.que, (World.cell?_setCell_other _ _ _ _ (by simp)).trans rq.granted, ?_⟩
      exact World.cell?_setCell_same _ _ _ (by rw [rq.exposed])
    have hR2 := hR1.far (W' := (W.setCell ⟨r, 11, none⟩ (.bool false)).setCell ⟨g.t, 11, none⟩ (.int .i64 ((k - 1 : Nat) : Int))) (Below.heap_setCell _ _ _ _ hrt)
    obtain ⟨k1, k2⟩ := main _ W1 (fun b h1 h2 => (Below.heap_setCell _ _ _ _ h2).trans (Below.heap_setCell _ _ _ _ h1)) (by simp [World.setCell]) ⟨rfl, rfl, rfl⟩ hR2 hO hK
    refine ⟨rfl, _, k1, k2.trans ?_⟩
    rw [if_pos rfl]
    simp [World.setCell, Array.getElem?_modify, hrt]
end Go.Proofs.YbulkbhqsDoor
