/-
  'leave' by a contract: what is asked, what the tail needs behind the head. Own work on this program.
-/
import Derived.Test.YbulkbhqsLeave
namespace Go.Proofs.Ybulkbhqs
open Go.RowKit
set_option linter.unusedVariables false

/-- What 'leave' is called upon. -/
structure LPre (ky nm : Nat → Nat) (M T Rm r ν t n B pos : Nat) (h s : Int) (root : Option Nat) (tb nl : Nat → Option Nat) (l cur : List Nat) (v : Value) (W : World) : Prop where
  cM : W.cell? ⟨M, 5, none⟩ = some (.map (some Rm))
  bM : ∃ c, W.heap[M]? = some (.cells c 86 (0, 0))
  map : MapIs W Rm tb
  hν : ν < 2
  idx : W.cell? ⟨r, 1, none⟩ = some (.string (nms ν))
  of : W.cell? ⟨r, 21, none⟩ = some (.pointer (some ⟨t, 0, none⟩))
  ok : ∀ x ∈ l, NodeOk ky W x
  hr : r ∈ l
  ht : tb ν = some t
  bx : Boxed W t 90 (ptr root)
  tr : Tr ky W n root l
  nd : l.Nodup
  c0 : W.cell? ⟨r, 0, none⟩ = some (.pointer (some ⟨T, 0, none⟩))
  c12 : W.cell? ⟨r, 12, none⟩ = some (.int .i64 h)
  c13 : W.cell? ⟨r, 13, none⟩ = some (.slice none 0 0)
  h1 : 1 ≤ h
  h3 : h ≤ 3
  at' : W.cell? ⟨r, 14, none⟩ = some (.int .i64 pos)
  bT : ∃ c, W.heap[T]? = some (.cells c 50 (0, 0))
  t4 : W.cell? ⟨T, 4, none⟩ = some (.int .i64 s)
  s0 : 0 ≤ s
  s1 : s ≤ 4096
  t3 : W.cell? ⟨T, 3, none⟩ = some v
  row : W.ownsRow B 45 1 v cur.length (ptrs cur)
  hpos : cur[pos]? = some r
  len : cur.length ≤ 1024
  cok : ∀ x ∈ cur, NodeOk ky W x ∧ ∃ a, W.cell? ⟨x, 14, none⟩ = some (.int .i64 a)
  slots : ∀ i, i < 4 → SlotIs W T 13 nm nl i
  hn : ∀ i, i < 4 → ∀ b, nl i = some b → nm b < 2 ∧ NodeOk ky W b

theorem cells_ne {W : World} {a b : Nat} {ca cb : Array Value} {ea eb : TypeId} {fa fb : Nat × Nat} (ha : W.heap[a]? = some (.cells ca ea fa)) (hb : W.heap[b]? = some (.cells cb eb fb)) (h : ea ≠ eb) : a ≠ b := by
  rintro rfl
  rw [ha] at hb
  simp at hb
  exact h hb.2.1

theorem row_blk {W : World} {base : Nat} {e : TypeId} {size : Nat} {v : Value} {n : Nat} {xs : List Value} (h : W.ownsRow base e size v n xs) {g : Nat} (hg : v.ownBlock = some g) : ∃ c, W.heap[g]? = some (.cells c e (0, 0)) := by
  rcases h.2 with ⟨rfl, _⟩ | ⟨g', cap, cur, rfl, _, h2, _⟩
  · simp [Value.ownBlock] at hg
  · obtain rfl : g' = g := by simpa [Value.ownBlock] using hg
    exact ⟨cur, h2⟩

variable {ky nm : Nat → Nat} {M T Rm r ν t n B pos : Nat} {h s : Int} {root : Option Nat} {tb nl : Nat → Option Nat} {l cur : List Nat} {v : Value} {W : World}

/-- What the tail of 'leave' needs, behind the head, ahead of 'forget'. -/
structure LMid (ky nm : Nat → Nat) (M T Rm r ν t n B pos : Nat) (root : Option Nat) (tb nl : Nat → Option Nat) (l cur : List Nat) (v : Value) (W : World) : Prop where
  cM : W.cell? ⟨M, 5, none⟩ = some (.map (some Rm))
  bM : ∃ c, W.heap[M]? = some (.cells c 86 (0, 0))
  map : MapIs W Rm tb
  idx : W.cell? ⟨r, 1, none⟩ = some (.string (nms ν))
  of : W.cell? ⟨r, 21, none⟩ = some (.pointer (some ⟨t, 0, none⟩))
  ok : ∀ x ∈ l, NodeOk ky W x
  bx : Boxed W t 90 (ptr root)
  tr : Tr ky W n root l
  at' : W.cell? ⟨r, 14, none⟩ = some (.int .i64 pos)
  bT : ∃ c, W.heap[T]? = some (.cells c 50 (0, 0))
  t3 : W.cell? ⟨T, 3, none⟩ = some v
  row : W.ownsRow B 45 1 v cur.length (ptrs cur)
  cok : ∀ x ∈ cur, NodeOk ky W x ∧ ∃ a, W.cell? ⟨x, 14, none⟩ = some (.int .i64 a)
  slots : ∀ i, i < 4 → SlotIs W T 13 nm nl i
  hn : ∀ i, i < 4 → ∀ b, nl i = some b → nm b < 2 ∧ NodeOk ky W b

theorem mid_of_head {g cap idx : Nat} {W1 : World} (p : LPre ky nm M T Rm r ν t n B pos h s root tb nl l cur v W) (hd : Headed ky r T g cap idx h s W W1) :
    LMid ky nm M T Rm r ν t n B pos root tb nl l cur v W1 := by
  obtain ⟨cM, hM⟩ := p.bM
  obtain ⟨cT, hT⟩ := p.bT
  obtain ⟨cr, hcr⟩ := (p.ok r p.hr).blkc
  have keep : ∀ {b : Nat} {c : Array Value} {e : TypeId}, W.heap[b]? = some (.cells c e (0, 0)) → e ≠ 50 → b ≠ r → W1.heap[b]? = W.heap[b]? := fun {b c e} hb he hne =>
    hd.kept.blk b (Array.getElem?_eq_some_iff.1 hb).1 (by simp only [List.mem_cons, List.not_mem_nil, or_false, not_or]; exact ⟨hne, cells_ne hb hT he⟩)
  have nodes : ∀ x, NodeOk ky W x → NodeOk ky W1 x := by
    intro x hx
    by_cases e : x = r
    · subst e; exact hd.node
    · obtain ⟨c, hc⟩ := hx.blkc
      exact hx.of_block (keep hc (by decide) e)
  have cells : ∀ x, NodeOk ky W x → ∀ o, o ≠ 12 → o ≠ 13 → W1.cell? ⟨x, o, none⟩ = W.cell? ⟨x, o, none⟩ := by
    intro x hx o h1 h2
    by_cases e : x = r
    · subst e; exact hd.roth o h1 h2
    · obtain ⟨c, hc⟩ := hx.blkc
      exact World.cell?_of_block (w := W) (a := ⟨x, o, none⟩) (keep hc (by decide) e)
  have eM := keep hM (by decide) (cells_ne hM hcr (by decide))
  refine ⟨(World.cell?_of_block (w := W) (a := ⟨M, 5, none⟩) eM).trans p.cM, ⟨cM, eM.trans hM⟩, ?_, (hd.roth 1 (by omega) (by omega)).trans p.idx, (hd.roth 21 (by omega) (by omega)).trans p.of, fun x hx => nodes x (p.ok x hx), ?_, ?_, (hd.roth 14 (by omega) (by omega)).trans p.at', hd.blkT, (hd.toth 3 (by omega)).trans p.t3, ?_, ?_, ?_, ?_⟩
  · obtain ⟨es, clock, hm, hs⟩ := p.map
    refine ⟨es, clock, (hd.kept.blk Rm (Array.getElem?_eq_some_iff.1 hm).1 ?_).trans hm, hs⟩
    simp only [List.mem_cons, List.not_mem_nil, or_false, not_or]
    exact ⟨p.map.not_cells hcr, p.map.not_cells hT⟩
  · exact (keep p.bx (by decide) (cells_ne p.bx hcr (by decide))).trans p.bx
  · exact p.tr.same fun x hx => ⟨cells x (p.ok x hx) 22 (by omega) (by omega), cells x (p.ok x hx) 23 (by omega) (by omega)⟩
  · refine owns_of_block p.row (fun g' e => ?_)
    obtain ⟨c, hc⟩ := row_blk p.row e
    exact keep hc (by decide) (cells_ne hc hcr (by decide))
  · intro x hx
    obtain ⟨hN, a, ha⟩ := p.cok x hx
    exact ⟨nodes x hN, a, (cells x hN 14 (by omega) (by omega)).trans ha⟩
  · intro i hi
    obtain ⟨s1, s2, s3⟩ := p.slots i hi
    exact ⟨(hd.toth _ (by omega)).trans s1, (hd.toth _ (by omega)).trans s2, (hd.toth _ (by omega)).trans s3⟩
  · intro i hi b hb
    obtain ⟨h1, h2⟩ := p.hn i hi b hb
    exact ⟨h1, nodes b h2⟩

/-- What the tail of 'leave' needs behind 'forget'. -/
structure LAft (ky nm : Nat → Nat) (T r ν B pos : Nat) (nl : Nat → Option Nat) (cur : List Nat) (v : Value) (W : World) : Prop where
  idx : W.cell? ⟨r, 1, none⟩ = some (.string (nms ν))
  at' : W.cell? ⟨r, 14, none⟩ = some (.int .i64 pos)
  bT : ∃ c, W.heap[T]? = some (.cells c 50 (0, 0))
  t3 : W.cell? ⟨T, 3, none⟩ = some v
  row : W.ownsRow B 45 1 v cur.length (ptrs cur)
  cok : ∀ x ∈ cur, NodeOk ky W x ∧ ∃ a, W.cell? ⟨x, 14, none⟩ = some (.int .i64 a)
  slots : ∀ i, i < 4 → SlotIs W T 13 nm nl i
  hn : ∀ i, i < 4 → ∀ b, nl i = some b → nm b < 2 ∧ NodeOk ky W b

/-- What 'forget' keeps of a run. -/
theorem Forgot.node {W1 W2 : World} (p : LMid ky nm M T Rm r ν t n B pos root tb nl l cur v W1) (f : Forgot ky Rm r ν t tb l W1 W2) {x : Nat} (hx : NodeOk ky W1 x) :
    NodeOk ky W2 x ∧ ∀ o, o ≠ 22 → o ≠ 23 → o ≠ 25 → W2.cell? ⟨x, o, none⟩ = W1.cell? ⟨x, o, none⟩ := by
  by_cases m : x ∈ l
  · exact ⟨f.nodes x m, f.stat x m⟩
  · obtain ⟨c, hc⟩ := hx.blkc
    have e : W2.heap[x]? = W1.heap[x]? := f.kept.blk x (Array.getElem?_eq_some_iff.1 hc).1 (by
      simp only [List.mem_cons, not_or]
      exact ⟨Ne.symm (p.map.not_cells hc), cells_ne hc p.bx (by decide), m⟩)
    exact ⟨hx.of_block e, fun o _ _ _ => World.cell?_of_block (w := W1) (a := ⟨x, o, none⟩) e⟩

theorem Forgot.other {W1 W2 : World} (p : LMid ky nm M T Rm r ν t n B pos root tb nl l cur v W1) (f : Forgot ky Rm r ν t tb l W1 W2) {x : Nat} {c : Array Value} {e : TypeId} (hc : W1.heap[x]? = some (.cells c e (0, 0))) (h1 : e ≠ 63) (h2 : e ≠ 90) :
    W2.heap[x]? = W1.heap[x]? := f.kept.blk x (Array.getElem?_eq_some_iff.1 hc).1 (by
  simp only [List.mem_cons, not_or]
  refine ⟨Ne.symm (p.map.not_cells hc), cells_ne hc p.bx h2, fun m => ?_⟩
  obtain ⟨c', hc'⟩ := (p.ok x m).blkc
  exact cells_ne hc hc' h1 rfl)

theorem aft_of_forgot {W1 W2 : World} (p : LMid ky nm M T Rm r ν t n B pos root tb nl l cur v W1) (f : Forgot ky Rm r ν t tb l W1 W2) (hr : r ∈ l) : LAft ky nm T r ν B pos nl cur v W2 := by
  obtain ⟨cT, hT⟩ := p.bT
  have eT := f.other p hT (by decide) (by decide)
  have tc : ∀ o, W2.cell? ⟨T, o, none⟩ = W1.cell? ⟨T, o, none⟩ := fun o => World.cell?_of_block (w := W1) (a := ⟨T, o, none⟩) eT
  refine ⟨(f.stat r hr 1 (by omega) (by omega) (by omega)).trans p.idx, (f.stat r hr 14 (by omega) (by omega) (by omega)).trans p.at', ⟨cT, eT.trans hT⟩, (tc 3).trans p.t3, ?_, ?_, ?_, ?_⟩
  · refine owns_of_block p.row (fun g' e => ?_)
    obtain ⟨c, hc⟩ := row_blk p.row e
    exact f.other p hc (by decide) (by decide)
  · intro x hx
    obtain ⟨hN, a, ha⟩ := p.cok x hx
    obtain ⟨h1, h2⟩ := f.node p hN
    exact ⟨h1, a, (h2 14 (by omega) (by omega) (by omega)).trans ha⟩
  · intro i hi
    obtain ⟨s1, s2, s3⟩ := p.slots i hi
    exact ⟨(tc _).trans s1, (tc _).trans s2, (tc _).trans s3⟩
  · intro i hi b hb
    obtain ⟨h1, h2⟩ := p.hn i hi b hb
    exact ⟨h1, (f.node p h2).1⟩
end Go.Proofs.Ybulkbhqs
