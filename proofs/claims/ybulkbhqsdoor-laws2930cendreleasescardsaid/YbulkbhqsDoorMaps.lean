/-
  Maps as relations between keys and elements: keys that are strings, keys that are pointers to queues. Own work on this program.
-/
import Derived.Test.YbulkbhqsDoorWait
import Derived.MapKept
import Derived.RangeFuncRecord
import Derived.ProofKit
import Derived.Maps.RangeRun
namespace Go.Proofs.YbulkbhqsDoor
open Go.RowKit
set_option linter.unusedVariables false

/-- The entries hold just what f says. -/
def EntAs (f : Value → Value → Prop) (es : Array MapEntry) (clock : Nat) : Prop :=
  MapKept.Stamped es clock ∧ ∀ k v, f k v ↔ ∃ e ∈ es.toList, e.key = k ∧ e.val = v

/-- Block b is a map: at the key k lies v just if f k v. -/
def MapAs (W : World) (b : Nat) (f : Value → Value → Prop) : Prop := ∃ es clock, W.heap[b]? = some (.map es clock) ∧ EntAs f es clock

theorem MapAs.congr {W : World} {b : Nat} {f f' : Value → Value → Prop} (h : MapAs W b f) (hf : ∀ k v, f k v ↔ f' k v) : MapAs W b f' := by
  obtain ⟨es, clock, h1, h2, h3⟩ := h
  exact ⟨es, clock, h1, h2, fun k v => (hf k v).symm.trans (h3 k v)⟩
theorem MapAs.same {W W' : World} {b : Nat} {f : Value → Value → Prop} (h : MapAs W b f) (e : W'.heap[b]? = W.heap[b]?) : MapAs W' b f := by
  obtain ⟨es, clock, h1, h2⟩ := h
  exact ⟨es, clock, e.trans h1, h2⟩

def Finds (kt : TypeId) (W : World) (l : List MapEntry) (k : Value) : Prop :=
  ((Instr.findKey kt k l).run Ybad.prog W = .ok none W ∧ ∀ x ∈ l, x.key ≠ k) ∨ ∃ j e, (Instr.findKey kt k l).run Ybad.prog W = .ok (some (j, e.val)) W ∧ l[j]? = some e ∧ e.key = k

/-- The key's kind. -/
structure KeyOk (kt : TypeId) (W : World) (l : List MapEntry) (k : Value) : Prop where
  finds : Finds kt W l k
  check : ∀ e, (Instr.checkKey e 10000 kt k).run Ybad.prog W = .ok () W
  stays : (Instr.keyThatStays k k).run Ybad.prog W = .ok k W

theorem key_string (W : World) (l : List MapEntry) (s : ByteArray) (h : ∀ x ∈ l, ∃ s, x.key = .string s) : KeyOk 9 W l (.string s) where
  finds := by
    rcases MapKept.findNow_spec (d := .string) (k := .string s) (by simp [MapKept.IsKey]) l 0 (fun x hx => by obtain ⟨s', e⟩ := h x hx; rw [e]; simp [MapKept.IsKey]) with ⟨h1, h2⟩ | ⟨j, e, h1, h2, h3⟩
    · exact .inl ⟨MapKept.run_findKey Ybad.underlying9 h1, h2⟩
    · exact .inr ⟨j, e, MapKept.run_findKey Ybad.underlying9 (by simpa using h1), h2, h3⟩
  check := fun e => MapKept.run_checkKey (k := .string s) Ybad.underlying9 (by simp [MapKept.IsKey]) e 9999
  stays := MapKept.run_keyThatStays (d := .string) (by simp [MapKept.IsKey])

theorem Ybad.info51 : (Ybad.prog.info? 51).map (fun i => (i.zero.isSome, decide (i.size = 0))) = some (true, false) := by kernel_rfl

theorem equal_same (a : Addr) (w : World) : (Op.equal 38 (.pointer (some a)) (.pointer (some a))).run Ybad.prog w = .ok true w := by
  obtain ⟨j, hj, _⟩ := Option.map_eq_some_iff.1 Ybad.info51
  have h : ∀ d : Nat, (Op.equalIn (d + 1) 38 (.pointer (some a)) (.pointer (some a))).run Ybad.prog w = .ok true w := fun d => by
    simp [Op.equalIn, run_underlying Ybad.underlying38, sizeOf, typeInfo, hj, run_sameAddr_same]
  simp [Op.equal, Op.maxDepth, h 9999]

theorem equal_other {a b : Nat} {w : World} (hne : a ≠ b) (ha : ∃ c, w.heap[a]? = some (.cells c 51 (0, 0))) (hb : ∃ c, w.heap[b]? = some (.cells c 51 (0, 0))) :
    (Op.equal 38 (.pointer (some ⟨a, 0, none⟩)) (.pointer (some ⟨b, 0, none⟩))).run Ybad.prog w = .ok false w := by
  obtain ⟨j, hj, hs⟩ := Option.map_eq_some_iff.1 Ybad.info51
  obtain ⟨ca, ha⟩ := ha
  obtain ⟨cb, hb⟩ := hb
  simp at hs
  have h : ∀ d : Nat, (Op.equalIn (d + 1) 38 (.pointer (some ⟨a, 0, none⟩)) (.pointer (some ⟨b, 0, none⟩))).run Ybad.prog w = .ok false w := fun d => by
    simp [Op.equalIn, run_underlying Ybad.underlying38, sizeOf, typeInfo, hj, hs.2, run_sameAddr_other w (a := ⟨a, 0, none⟩) (b := ⟨b, 0, none⟩) (by simp) ha hb]
  simp [Op.equal, Op.maxDepth, h 9999]

theorem asking {W : World} {b : Nat} (hb : ∃ c, W.heap[b]? = some (.cells c 51 (0, 0))) : ∀ (l : List MapEntry) (i : Nat), (∀ x ∈ l, ∃ b', x.key = .pointer (some ⟨b', 0, none⟩) ∧ ∃ c, W.heap[b']? = some (.cells c 51 (0, 0))) →
    ((Instr.findAsking 38 (.pointer (some ⟨b, 0, none⟩)) l i).run Ybad.prog W = .ok none W ∧ ∀ x ∈ l, x.key ≠ .pointer (some ⟨b, 0, none⟩)) ∨ ∃ j e, (Instr.findAsking 38 (.pointer (some ⟨b, 0, none⟩)) l i).run Ybad.prog W = .ok (some (i + j, e.val)) W ∧ l[j]? = some e ∧ e.key = .pointer (some ⟨b, 0, none⟩)
  | [], i, h => .inl ⟨rfl, by simp⟩
  | e :: es, i, h => by
    obtain ⟨b', hk, hb'⟩ := h e (.head _)
    by_cases hne : b = b'
    · subst hne
      exact .inr ⟨0, e, by simp [Instr.findAsking, hk, equal_same, Result.andThen], rfl, hk⟩
    · have hq := equal_other hne hb hb'
      rcases asking hb es (i + 1) (fun x hx => h x (.tail _ hx)) with ⟨h1, h2⟩ | ⟨j, e', h1, h2, h3⟩
      · refine .inl ⟨by simp [Instr.findAsking, hk, hq, Result.andThen, h1], fun x hx => ?_⟩
        cases hx with
        | head => rw [hk]; simp
        | tail _ hx => exact h2 x hx
      · exact .inr ⟨j + 1, e', by simp [Instr.findAsking, hk, hq, Result.andThen, h1]; omega, by simpa using h2, h3⟩

theorem key_ptr {W : World} {b : Nat} (hb : ∃ c, W.heap[b]? = some (.cells c 51 (0, 0))) (l : List MapEntry) (h : ∀ x ∈ l, ∃ b', x.key = .pointer (some ⟨b', 0, none⟩) ∧ ∃ c, W.heap[b']? = some (.cells c 51 (0, 0))) : KeyOk 38 W l (.pointer (some ⟨b, 0, none⟩)) where
  finds := by
    cases l with
    | nil => exact .inl ⟨by simp [Instr.findKey, run_underlying Ybad.underlying38, Instr.findNow, Result.andThen], by simp⟩
    | cons e es =>
      have hn : Instr.findNow (.pointer 51) (.pointer (some ⟨b, 0, none⟩)) (e :: es) 0 = none := by simp [Instr.findNow, Instr.sameNow]
      rcases asking hb (e :: es) 0 h with ⟨h1, h2⟩ | ⟨j, e', h1, h2, h3⟩
      · exact .inl ⟨by simp [Instr.findKey, run_underlying Ybad.underlying38, hn, Result.andThen, h1], h2⟩
      · exact .inr ⟨j, e', by simp [Instr.findKey, run_underlying Ybad.underlying38, hn, Result.andThen, h1], h2, h3⟩
  check := fun e => by unfold Instr.checkKey; simp [run_underlying Ybad.underlying38, Result.andThen]
  stays := by simp [Instr.keyThatStays, Instr.sameBits]

theorem key_idx {es : Array MapEntry} {clock : Nat} (h : MapKept.Stamped es clock) {i j : Nat} {x y : MapEntry} (hi : es.toList[i]? = some x) (hj : es.toList[j]? = some y) (e : x.key = y.key) : i = j := by
  have h1 : (es.toList.map (·.key))[i]? = some x.key := by simp only [List.getElem?_map, hi, Option.map_some]
  have h2 : (es.toList.map (·.key))[j]? = some x.key := by simp only [List.getElem?_map, hj, Option.map_some, e]
  exact (List.getElem?_inj (List.getElem?_eq_some_iff.1 h1).1 h.2.2).1 (h1.trans h2.symm)

theorem lookup_some {W : World} {b mt kt et : Nat} {f : Value → Value → Prop} {k v : Value} {es : Array MapEntry} {clock : Nat} (ht : Ybad.prog.underlying mt = some (.map kt et)) (hb : W.heap[b]? = some (.map es clock)) (h : EntAs f es clock) (hk : KeyOk kt W es.toList k) (hf : f k v) :
    (Instr.lookup mt (.map (some b)) k false).run Ybad.prog W = .ok v W ∧ (Instr.lookup mt (.map (some b)) k true).run Ybad.prog W = .ok (.tuple #[v, .bool true]) W := by
  obtain ⟨e, he, h1, h2⟩ := (h.2 k v).1 hf
  rcases hk.finds with ⟨_, hn⟩ | ⟨j, e', hr, hj, hk'⟩
  · exact absurd h1 (hn e he)
  · have : e'.val = v := by
      have hm := List.mem_of_getElem? hj
      have : e' = e := by
        obtain ⟨i, hi⟩ := List.getElem?_of_mem he
        have hij := key_idx h.1 hj hi (hk'.trans h1.symm)
        rw [hij, hi] at hj
        exact (Option.some.inj hj).symm
      rw [this, h2]
    subst this
    constructor <;> simp [Instr.lookup, run_underlying ht, MapKept.run_getObj_map hb, hk.check, hr, Result.andThen]

theorem lookup_none {W : World} {b mt kt et : Nat} {f : Value → Value → Prop} {k z : Value} {es : Array MapEntry} {clock : Nat} (ht : Ybad.prog.underlying mt = some (.map kt et)) (hb : W.heap[b]? = some (.map es clock)) (h : EntAs f es clock) (hk : KeyOk kt W es.toList k) (hf : ∀ v, ¬ f k v) (hz : (zeroValue et).run Ybad.prog W = .ok z W) :
    (Instr.lookup mt (.map (some b)) k false).run Ybad.prog W = .ok z W ∧ (Instr.lookup mt (.map (some b)) k true).run Ybad.prog W = .ok (.tuple #[z, .bool false]) W := by
  rcases hk.finds with ⟨hr, _⟩ | ⟨j, e', hr, hj, hk'⟩
  · constructor <;> simp [Instr.lookup, run_underlying ht, MapKept.run_getObj_map hb, hk.check, hr, hz, Result.andThen]
  · exact absurd ((h.2 k e'.val).2 ⟨e', List.mem_of_getElem? hj, hk', rfl⟩) (hf _)

/-- A store. -/
theorem update_as {W : World} {b mt kt et : Nat} {f : Value → Value → Prop} {k v : Value} {es : Array MapEntry} {clock : Nat} (ht : Ybad.prog.underlying mt = some (.map kt et)) (hb : W.heap[b]? = some (.map es clock)) (h : EntAs f es clock) (hk : KeyOk kt W es.toList k) :
    ∃ es' clock', (Instr.mapUpdate mt (.map (some b)) k v).run Ybad.prog W = .ok () (W.putObj b (.map es' clock')) ∧ EntAs (fun k' v' => (k' = k ∧ v' = v) ∨ (k' ≠ k ∧ f k' v')) es' clock' := by
  rcases hk.finds with ⟨hr, hn⟩ | ⟨j, e', hr, hj, hk'⟩
  · refine ⟨es.push { key := k, val := v, born := clock }, clock + 1, ?_, MapKept.stamped_push h.1 hn, fun k' v' => ?_⟩
    · simp [Instr.mapUpdate, run_underlying ht, MapKept.run_getObj_map hb, hk.check, hr, MapKept.run_setObj_map _ hb, Result.andThen, World.putObj]
    · simp only [Array.toList_push, List.mem_append, List.mem_singleton]
      constructor
      · rintro (⟨rfl, rfl⟩ | ⟨hne, hf⟩)
        · exact ⟨_, .inr rfl, rfl, rfl⟩
        · obtain ⟨e, he, h1, h2⟩ := (h.2 k' v').1 hf
          exact ⟨e, .inl he, h1, h2⟩
      · rintro ⟨e, he | rfl, h1, h2⟩
        · exact .inr ⟨fun q => hn e he (h1.trans q), (h.2 k' v').2 ⟨e, he, h1, h2⟩⟩
        · exact .inl ⟨h1.symm, h2.symm⟩
  · have hj' : es[j]? = some e' := by simpa using hj
    refine ⟨es.modify j fun e => { e with key := k, val := v }, clock, ?_, MapKept.stamped_modify h.1 j _ (fun _ _ => rfl) (fun e he hje => ?_), fun k' v' => ?_⟩
    · simp [Instr.mapUpdate, run_underlying ht, MapKept.run_getObj_map hb, hk.check, hr, hj', hk', hk.stays, MapKept.run_setObj_map _ hb, Result.andThen, World.putObj]
    · rw [hj'] at hje; cases hje; exact hk'.symm
    · have uniq : ∀ i e, es.toList[i]? = some e → e.key = k → i = j := by
        intro i e hi he
        exact key_idx h.1 hi hj (he.trans hk'.symm)
      have hmem : ∀ x, x ∈ (es.modify j fun e => { e with key := k, val := v }).toList ↔ (x = { e' with key := k, val := v }) ∨ (x ∈ es.toList ∧ x.key ≠ k) := by
        intro x
        constructor
        · intro hx
          obtain ⟨i, hi⟩ := List.getElem?_of_mem hx
          rw [Array.getElem?_toList, Array.getElem?_modify] at hi
          by_cases hij : j = i
          · subst hij
            simp [hj'] at hi
            exact .inl hi.symm
          · simp [hij] at hi
            have hi2 : es.toList[i]? = some x := by simpa using hi
            exact .inr ⟨List.mem_of_getElem? hi2, fun q => hij (uniq i x hi2 q).symm⟩
        · rintro (rfl | ⟨hx, hne⟩)
          · refine List.mem_of_getElem? (i := j) ?_
            rw [Array.getElem?_toList, Array.getElem?_modify]
            simp [hj']
          · obtain ⟨i, hi⟩ := List.getElem?_of_mem hx
            refine List.mem_of_getElem? (i := i) ?_
            have hij : j ≠ i := by
              rintro rfl
              rw [hj] at hi; cases hi; exact hne hk'
            rw [Array.getElem?_toList, Array.getElem?_modify]
            simp [hij]
            simpa using hi
      constructor
      · rintro (⟨rfl, rfl⟩ | ⟨hne, hf⟩)
        · exact ⟨_, (hmem _).2 (.inl rfl), rfl, rfl⟩
        · obtain ⟨e, he, h1, h2⟩ := (h.2 k' v').1 hf
          exact ⟨e, (hmem _).2 (.inr ⟨he, fun q => hne (h1.symm.trans q)⟩), h1, h2⟩
      · rintro ⟨e, he, h1, h2⟩
        rcases (hmem e).1 he with rfl | ⟨hx, hne⟩
        · exact .inl ⟨h1.symm, h2.symm⟩
        · exact .inr ⟨fun q => hne (h1.trans q), (h.2 k' v').2 ⟨e, hx, h1, h2⟩⟩

/-- A key taken out. -/
theorem delete_as {W : World} {b mt kt et : Nat} {f : Value → Value → Prop} {k : Value} {es : Array MapEntry} {clock : Nat} (kt' : Nat) (ht : Ybad.prog.underlying mt = some (.map kt et)) (hb : W.heap[b]? = some (.map es clock)) (h : EntAs f es clock) (hk : KeyOk kt W es.toList k) :
    ∃ es', (∀ ty, (Builtin.delete_ #[mt, kt'] ty #[.map (some b), k]).run Ybad.prog W = .ok (.tuple #[]) (W.putObj b (.map es' clock))) ∧ EntAs (fun k' v' => k' ≠ k ∧ f k' v') es' clock := by
  rcases hk.finds with ⟨hr, hn⟩ | ⟨j, e', hr, hj, hk'⟩
  · refine ⟨es, fun ty => ?_, h.1, fun k' v' => ?_⟩
    · simp [Builtin.delete_, run_underlying ht, MapKept.run_getObj_map hb, hk.check, hr, MapKept.run_setObj_map _ hb, Result.andThen, World.putObj]
    · constructor
      · rintro ⟨_, hf⟩; exact (h.2 k' v').1 hf
      · rintro ⟨e, he, h1, h2⟩; exact ⟨fun q => hn e he (h1.trans q), (h.2 k' v').2 ⟨e, he, h1, h2⟩⟩
  · refine ⟨es.eraseIdxIfInBounds j, fun ty => ?_, MapKept.stamped_erase h.1 j, fun k' v' => ?_⟩
    · simp [Builtin.delete_, run_underlying ht, MapKept.run_getObj_map hb, hk.check, hr, MapKept.run_setObj_map _ hb, Result.andThen, World.putObj]
    · have hlt : j < es.size := by have := (List.getElem?_eq_some_iff.1 hj).1; simpa using this
      have hmem : ∀ x, x ∈ (es.eraseIdxIfInBounds j).toList ↔ x ∈ es.toList ∧ x.key ≠ k := by
        intro x
        unfold Array.eraseIdxIfInBounds
        rw [dif_pos hlt, Array.toList_eraseIdx]
        constructor
        · intro hx
          refine ⟨(List.eraseIdx_sublist _ _).subset hx, fun q => ?_⟩
          obtain ⟨i, hi, hxi⟩ := List.mem_eraseIdx_iff_getElem?.1 hx
          exact hi (key_idx h.1 hxi hj (q.trans hk'.symm))
        · rintro ⟨hx, hne⟩
          obtain ⟨i, hi⟩ := List.getElem?_of_mem hx
          refine List.mem_eraseIdx_iff_getElem?.2 ⟨i, ?_, hi⟩
          rintro rfl
          rw [hj] at hi; cases hi; exact hne hk'
      constructor
      · rintro ⟨hne, hf⟩
        obtain ⟨e, he, h1, h2⟩ := (h.2 k' v').1 hf
        exact ⟨e, (hmem _).2 ⟨he, fun q => hne (h1.symm.trans q)⟩, h1, h2⟩
      · rintro ⟨e, he, h1, h2⟩
        obtain ⟨hx, hne⟩ := (hmem e).1 he
        exact ⟨fun q => hne (h1.trans q), (h.2 k' v').2 ⟨e, hx, h1, h2⟩⟩

theorem EntAs.empty (f : Value → Value → Prop) (hf : ∀ k v, ¬ f k v) : EntAs f #[] 0 := ⟨MapKept.stamped_empty 0, fun k v => ⟨fun h => absurd h (hf k v), fun ⟨e, he, _⟩ => by simp at he⟩⟩

theorem EntAs.size_zero {f : Value → Value → Prop} {es : Array MapEntry} {clock : Nat} (h : EntAs f es clock) : es.size = 0 ↔ ∀ k v, ¬ f k v := by
  constructor
  · intro h0 k v hf
    obtain ⟨e, he, _⟩ := (h.2 k v).1 hf
    have : es = #[] := Array.eq_empty_of_size_eq_zero h0
    subst this; simp at he
  · intro hf
    by_cases h0 : es.size = 0
    · exact h0
    · have hlt : 0 < es.size := by omega
      exact absurd ((h.2 es[0].key es[0].val).2 ⟨es[0], by simp, rfl, rfl⟩) (hf _ _)

theorem lookup_nil {mt kt et : Nat} {k z : Value} (W : World) (ht : Ybad.prog.underlying mt = some (.map kt et)) (hk : KeyOk kt W [] k) (hz : (zeroValue et).run Ybad.prog W = .ok z W) :
    (Instr.lookup mt (.map none) k true).run Ybad.prog W = .ok (.tuple #[z, .bool false]) W := by
  rcases hk.finds with ⟨hr, _⟩ | ⟨j, e', hr, hj, hk'⟩
  · simp [Instr.lookup, run_underlying ht, hk.check, hr, hz, Result.andThen]
  · simp at hj
end Go.Proofs.YbulkbhqsDoor
