/-
  'home' and 'forget' of the queues' maps, by contracts. Own work on this program.
-/
import Derived.Test.YbulkbhqsDoorMaps
import Derived.BigQuiet
import Derived.Deep.CutBlock
import Derived.Deep.DeepCutAuto
namespace Go.Proofs.YbulkbhqsDoor
open Go.RowKit
set_option linter.unusedVariables false

theorem EntAs.keyOk {f : Value → Value → Prop} {es : Array MapEntry} {clock : Nat} (h : EntAs f es clock) (hf : ∀ k v, f k v → ∃ s, k = .string s) (W : World) (s : ByteArray) : KeyOk 9 W es.toList (.string s) :=
  key_string W es.toList s (fun x hx => hf x.key x.val ((h.2 _ _).2 ⟨x, hx, rfl, rfl⟩))

theorem Kept.put (S : List Nat) (W : World) (b : Nat) (hb : b ∈ S) (o : Obj) : Kept S W (W.putObj b o) :=
  ⟨rfl, rfl, rfl, by simp [World.putObj], fun b' _ hn => World.putObj_heap_other (fun e => hn (e ▸ hb))⟩

theorem cell_lt {W : World} {b o : Nat} {v : Value} (h : W.cell? ⟨b, o, none⟩ = some v) : b < W.heap.size := by
  by_cases hb : b < W.heap.size
  · exact hb
  · simp [World.cell?, Array.getElem?_eq_none (Nat.not_lt.1 hb)] at h
theorem zero38 (w : World) : (zeroValue 38).run Ybad.prog w = .ok (.pointer none) w := by kernel_rfl
theorem zero52 (w : World) : (zeroValue 52).run Ybad.prog w = .ok (.map none) w := by kernel_rfl

set_option maxRecDepth 100000 in
set_option maxHeartbeats 1000000 in
theorem isEnd_any (k : Value) (p : Int) (hp : (p == 2) = false) (W : World) :
    Calls Ybad.prog 64 #[.agg #[k, .int .i8 p]] W fun e W' => e = .returned (.bool false) ∧ Kept [] W W' := by
  go_enter Ybad.func64, Ybad.ntmps64
  go_wp2
  go_ret
  exact ⟨rfl, Kept.alloc _ _ _⟩

set_option maxRecDepth 100000 in
set_option maxHeartbeats 1000000 in
theorem isStart_any (k : Value) (p : Int) (hp : (p == 0) = false) (W : World) :
    Calls Ybad.prog 65 #[.agg #[k, .int .i8 p]] W fun e W' => e = .returned (.bool false) ∧ Kept [] W W' := by
  go_enter Ybad.func65, Ybad.ntmps65
  go_wp2
  go_ret
  exact ⟨rfl, Kept.alloc _ _ _⟩

set_option maxRecDepth 100000 in
set_option maxHeartbeats 1000000 in
theorem home_table (m mt : Nat) (n k : Value) (p : Int) (W : World) (hm : m < W.heap.size) (c2 : W.cell? ⟨m, 2, none⟩ = some (.map (some mt))) :
    Calls Ybad.prog 54 #[.pointer (some ⟨m, 2, none⟩), .agg #[n, k, .int .i8 p, .bool true]] W fun e W' => e = .returned (.tuple #[.map (some mt), n]) ∧ Kept [] W W' := by
  go_enter Ybad.func54, Ybad.ntmps54
  go_wp2_with fail
  go_region
  go_wp2
  go_ret2
  exact ⟨rfl, (Kept.alloc _ _ _).drew⟩

set_option maxRecDepth 100000 in
set_option maxHeartbeats 1000000 in
theorem home_key (m mk mh : Nat) (n : ByteArray) (k : Value) (f : Value → Value → Prop) (W : World) (hm : m < W.heap.size) (c4 : W.cell? ⟨m, 4, none⟩ = some (.map (some mk))) (hmap : MapAs W mk f) (hs : ∀ k v, f k v → ∃ s, k = .string s) (hf : f (.string n) (.map (some mh))) :
    Calls Ybad.prog 54 #[.pointer (some ⟨m, 2, none⟩), .agg #[.string n, k, .int .i8 1, .bool false]] W fun e W' => e = .returned (.tuple #[.map (some mh), k]) ∧ Kept [] W W' := by
  obtain ⟨es, clock, hb, hent⟩ := hmap
  have hlt : mk < W.heap.size := (Array.getElem?_eq_some_iff.1 hb).1
  have hlook : ∀ W' : World, W'.heap[mk]? = W.heap[mk]? → (Instr.lookup 53 (.map (some mk)) (.string n) false).run Ybad.prog W' = .ok (.map (some mh)) W' := fun W' e => (lookup_some Ybad.underlying53 (e.trans hb) hent (hent.keyOk hs _ _) hf).1
  have HL := (show Hid _ from hlook)
  clear hlook hent hs hf
  have HE := (show Hid _ from fun W => isEnd_any k 1 rfl W)
  have HS := (show Hid _ from fun W => isStart_any k 1 rfl W)
  have HM := (show Hid _ from And.intro c4 (And.intro hm hlt))
  clear c4 hm hlt hb
  go_enter Ybad.func54, Ybad.ntmps54
  go_wp2_with fail
  refine (show Calls _ _ _ _ _ from HE.out _).mono ?_
  rintro e W1 ⟨rfl, k1⟩
  have d1 : W1.heap[W.heap.size]? = some (.cells #[.string n, k, .int .i8 1, .bool false] 47 (0, 0)) := (k1.blk _ (by simp) (by simp)).trans (heap_alloc_new _ _)
  have e0 : W1.cell? ⟨W.heap.size, 0, none⟩ = some (.string n) := by simp [World.cell?, d1]
  have e1 : W1.cell? ⟨W.heap.size, 1, none⟩ = some k := by simp [World.cell?, d1]
  have e2 : W1.cell? ⟨W.heap.size, 2, none⟩ = some (.int .i8 1) := by simp [World.cell?, d1]
  go_wp2_with fail
  refine (show Calls _ _ _ _ _ from HS.out _).mono ?_
  rintro e W2 ⟨rfl, k2⟩
  have d2 : W2.heap[W.heap.size]? = some (.cells #[.string n, k, .int .i8 1, .bool false] 47 (0, 0)) := (k2.blk _ (Array.getElem?_eq_some_iff.1 d1).1 (by simp)).trans d1
  clear e0 e1 e2
  have kk : Kept [] W W2 := (Kept.alloc [] W _).trans (k1.trans k2)
  have e0 : W2.cell? ⟨W.heap.size, 0, none⟩ = some (.string n) := by simp [World.cell?, d2]
  have e1 : W2.cell? ⟨W.heap.size, 1, none⟩ = some k := by simp [World.cell?, d2]
  have e4 : W2.cell? ⟨m, 4, none⟩ = some (.map (some mk)) := (World.cell?_of_block (w := W) (a := ⟨m, 4, none⟩) (kk.blk m HM.out.2.1 (by simp))).trans HM.out.1
  have hl := (show ∀ W' : World, _ from HL.out) W2.drew (kk.blk mk HM.out.2.2 (by simp))
  have HK := (show Hid _ from kk)
  clear d1 d2 kk k1 k2
  go_wp2_with fail
  go_region
  go_wp2
  go_ret2
  exact ⟨rfl, (show Kept [] W W2 from HK.out).drew⟩

theorem cells6 {W : World} {Q : Nat} {a0 a1 a2 a3 a4 a5 : Value} (h : W.heap[Q]? = some (.cells #[a0, a1, a2, a3, a4, a5] 51 (0, 0))) :
    W.cell? ⟨Q, 0, none⟩ = some a0 ∧ W.cell? ⟨Q, 1, none⟩ = some a1 ∧ W.cell? ⟨Q, 2, none⟩ = some a2 ∧ W.cell? ⟨Q, 3, none⟩ = some a3 ∧ W.cell? ⟨Q, 4, none⟩ = some a4 ∧ W.cell? ⟨Q, 5, none⟩ = some a5 := by simp [World.cell?, h]

set_option maxRecDepth 100000 in
set_option maxHeartbeats 1000000 in
theorem forget_table (m mt Q : Nat) (n : ByteArray) (k : Value) (f : Value → Value → Prop) (W : World) (c2 : W.cell? ⟨m, 2, none⟩ = some (.map (some mt))) (hmap : MapAs W mt f) (hs : ∀ k v, f k v → ∃ s, k = .string s)
    (cQ : ∃ a b, W.heap[Q]? = some (.cells #[.string n, k, .int .i8 0, .bool true, a, b] 51 (0, 0))) :
    Calls Ybad.prog 39 #[.pointer (some ⟨m, 2, none⟩), .pointer (some ⟨Q, 0, none⟩)] W fun e W' => e = .returned (.tuple #[]) ∧ MapAs W' mt (fun k' v' => k' ≠ .string n ∧ f k' v') ∧ Kept [mt] W W' := by
  obtain ⟨a, b, hQ⟩ := cQ
  have HM := (show Hid _ from home_table m mt (.string n) k 0 W (cell_lt c2) c2)
  obtain ⟨q0, q1, q2, q3, q4, q5⟩ := cells6 hQ
  have HQ := (show Hid _ from hQ)
  clear hQ q4 q5 c2
  go_enter Ybad.func39, Ybad.ntmps39
  go_wp2_with fail
  refine (show Calls _ _ _ _ _ from HM.out).mono ?_
  rintro e W1 ⟨rfl, k1⟩
  obtain ⟨es, clock, hb, hent⟩ := hmap
  have hb1 := (k1.blk _ (Array.getElem?_eq_some_iff.1 hb).1 (by simp)).trans hb
  have hQ : W.heap[Q]? = _ := HQ.out
  have hQ1 := (k1.blk _ (Array.getElem?_eq_some_iff.1 hQ).1 (by simp)).trans hQ
  obtain ⟨es', hdel, hent'⟩ := delete_as (W := W1) 9 Ybad.underlying52 hb1 hent (hent.keyOk hs _ n)
  have hQm : Q ≠ mt := by rintro rfl; rw [hQ] at hb; cases hb
  have hb2 : (W1.putObj mt (.map es' clock)).heap[mt]? = some (.map es' clock) := World.putObj_heap_same (Array.getElem?_eq_some_iff.1 hb1).1
  have hQ2 := (show (W1.putObj mt (.map es' clock)).heap[Q]? = W1.heap[Q]? from World.putObj_heap_other hQm).trans hQ1
  obtain ⟨-, -, p2, -, -, -⟩ := cells6 hQ2
  have hlen := run_len_map (P := Ybad.prog) (w := W1.putObj mt (.map es' clock)) 52 3 mt es' clock Ybad.underlying52 hb2
  have fin : MapAs (W1.putObj mt (.map es' clock)) mt (fun k' v' => k' ≠ .string n ∧ f k' v') ∧ Kept [mt] W (W1.putObj mt (.map es' clock)) :=
    ⟨⟨es', clock, hb2, hent'⟩, (k1.mono (by simp)).trans (Kept.put _ _ _ (by simp) _)⟩
  have HF := (show Hid _ from fin)
  clear hb hent hb1 hQ hQ1 k1 hent' hb2 hQ2 fin q0 q1 q2 q3
  by_cases h0 : ((es'.size : Int) == 0) = true
  · go_wp2_with fail
    go_end0
    exact ⟨rfl, HF.out⟩
  · have h0 : ((es'.size : Int) == 0) = false := by simpa using h0
    go_wp2_with fail
    go_end0
    exact ⟨rfl, HF.out⟩

set_option maxRecDepth 100000 in
set_option maxHeartbeats 1000000 in
theorem forget_key (m mk mh Q : Nat) (n kb : ByteArray) (f fk : Value → Value → Prop) (W : World) (c4 : W.cell? ⟨m, 4, none⟩ = some (.map (some mk))) (hmk : MapAs W mk fk) (hsk : ∀ k v, fk k v → ∃ s, k = .string s) (hfk : fk (.string n) (.map (some mh))) (hmap : MapAs W mh f) (hs : ∀ k v, f k v → ∃ s, k = .string s) (hne : mh ≠ mk) (hmm : m ≠ mk) (hmh : m ≠ mh)
    (cQ : ∃ a b, W.heap[Q]? = some (.cells #[.string n, .string kb, .int .i8 1, .bool false, a, b] 51 (0, 0))) :
    Calls Ybad.prog 39 #[.pointer (some ⟨m, 2, none⟩), .pointer (some ⟨Q, 0, none⟩)] W fun e W' => e = .returned (.tuple #[]) ∧ MapAs W' mh (fun k' v' => k' ≠ .string kb ∧ f k' v') ∧
      (((∀ k' v', ¬ (k' ≠ .string kb ∧ f k' v')) ∧ MapAs W' mk (fun k' v' => k' ≠ .string n ∧ fk k' v')) ∨ ((¬ ∀ k' v', ¬ (k' ≠ .string kb ∧ f k' v')) ∧ MapAs W' mk fk)) ∧ Kept [mk, mh] W W' := by
  obtain ⟨a, b, hQ⟩ := cQ
  have HM := (show Hid _ from home_key m mk mh n (.string kb) fk W (cell_lt c4) c4 hmk hsk hfk)
  obtain ⟨q0, q1, q2, q3, q4, q5⟩ := cells6 hQ
  have HQ := (show Hid _ from hQ)
  clear hQ q4 q5
  have H4 := (show Hid _ from c4)
  clear c4
  go_enter Ybad.func39, Ybad.ntmps39
  go_wp2_with fail
  refine (show Calls _ _ _ _ _ from HM.out).mono ?_
  rintro e W1 ⟨rfl, k1⟩
  obtain ⟨es, clock, hb, hent⟩ := hmap
  obtain ⟨esk, clockk, hbk, hentk⟩ := hmk
  have hb1 := (k1.blk _ (Array.getElem?_eq_some_iff.1 hb).1 (by simp)).trans hb
  have hbk1 := (k1.blk _ (Array.getElem?_eq_some_iff.1 hbk).1 (by simp)).trans hbk
  have hQ : W.heap[Q]? = _ := HQ.out
  have c4 : W.cell? ⟨m, 4, none⟩ = _ := H4.out
  have hQ1 := (k1.blk _ (Array.getElem?_eq_some_iff.1 hQ).1 (by simp)).trans hQ
  have hm1 := k1.blk m (cell_lt c4) (by simp)
  obtain ⟨es', hdel, hent'⟩ := delete_as (W := W1) 9 Ybad.underlying52 hb1 hent (hent.keyOk hs _ kb)
  have hQm : Q ≠ mh := by rintro rfl; rw [hQ] at hb; cases hb
  have hQk : Q ≠ mk := by rintro rfl; rw [hQ] at hbk; cases hbk
  have hb2 : (W1.putObj mh (.map es' clock)).heap[mh]? = some (.map es' clock) := World.putObj_heap_same (Array.getElem?_eq_some_iff.1 hb1).1
  have far : ∀ b, b ≠ mh → (W1.putObj mh (.map es' clock)).heap[b]? = W1.heap[b]? := fun b h => World.putObj_heap_other h
  have hQ2 := (far Q hQm).trans hQ1
  have hbk2 := (far mk (Ne.symm hne)).trans hbk1
  have d4 : (W1.putObj mh (.map es' clock)).cell? ⟨m, 4, none⟩ = some (.map (some mk)) := (World.cell?_of_block (w := W1) (a := ⟨m, 4, none⟩) (far m hmh)).trans ((World.cell?_of_block (w := W) (a := ⟨m, 4, none⟩) hm1).trans c4)
  obtain ⟨p0, -, p2, -, -, -⟩ := cells6 hQ2
  have kk : Kept [mk, mh] W (W1.putObj mh (.map es' clock)) := (k1.mono (by simp)).trans (Kept.put _ _ _ (by simp) _)
  have hmap2 : MapAs (W1.putObj mh (.map es' clock)) mh (fun k' v' => k' ≠ .string kb ∧ f k' v') := ⟨es', clock, hb2, hent'⟩
  have hlen := run_len_map (P := Ybad.prog) (w := W1.putObj mh (.map es' clock)) 52 3 mh es' clock Ybad.underlying52 hb2
  have hz := hent'.size_zero
  have HZ := (show Hid _ from And.intro hz (And.intro kk hmap2))
  have HF := (show Hid _ from far)
  clear far hb hent hb1 hQ hQ1 k1 hent' q0 q1 q2 q3 hz hm1 kk hbk hb2 hbk1 hQ2 hmap2 c4
  by_cases h0 : ((es'.size : Int) == 0) = true
  · go_upto_if 28 with fail
    generalize W1.putObj mh (.map es' clock) = W2 at *
    obtain ⟨esk', hdelk, hentk'⟩ := delete_as (W := W2.drew) 9 Ybad.underlying53 hbk2 hentk (hentk.keyOk hsk _ n)
    have hlt : mk < W2.heap.size := (Array.getElem?_eq_some_iff.1 hbk2).1
    have HT := (show Hid _ from And.intro hentk' hlt)
    clear hentk hentk' hdel hlen hbk2 hlt
    go_wp2_with fail
    go_region
    go_end0
    obtain ⟨hz, kk, hmap2⟩ := HZ.out
    have h0 : es'.size = 0 := by simpa using h0
    refine ⟨rfl, MapAs.same (W := W2) hmap2 (World.putObj_heap_other hne), .inl ⟨hz.1 h0, esk', clockk, World.putObj_heap_same HT.out.2, HT.out.1⟩, kk.drew.trans (Kept.put _ _ _ (by simp) _)⟩
  · have h0 : ((es'.size : Int) == 0) = false := by simpa using h0
    go_wp2_with fail
    go_end0
    obtain ⟨hz, kk, hmap2⟩ := HZ.out
    refine ⟨rfl, hmap2, .inr ⟨fun h => ?_, esk, clockk, hbk2, hentk⟩, kk⟩
    have := hz.2 h
    simp [this] at h0
end Go.Proofs.YbulkbhqsDoor
