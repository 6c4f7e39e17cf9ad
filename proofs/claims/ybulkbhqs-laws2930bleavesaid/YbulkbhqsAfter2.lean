/-
  'leave' under what the law has built: one contract for both ways. Own work on this program.
-/
import Derived.Test.YbulkbhqsAfter
namespace Go.Proofs.Ybulkbhqs
open Go.RowKit
set_option linter.unusedVariables false

variable {w : World} {xs : Array Value} {j : Nat} {sm : Int} {ky nm : Nat → Nat} {hd : Nat → Int} {tb : Nat → Option Nat} {l : Nat → List Nat} {bs : List Nat} {v : Value} {nl : Nat → Option Nat} {W W' : World}

/-- Which way 'leave' went. -/
def Went (nm : Nat → Nat) (r pos : Nat) (h : Int) (bs : List Nat) (nl : Nat → Option Nat) (v : Value) (cur' : List Nat) (nl' : Nat → Option Nat) (v' : Value) : Prop :=
  (2 ≤ h ∧ cur' = bs ∧ nl' = nl ∧ v' = v) ∨ (h = 1 ∧ ∃ last, bs[bs.length - 1]? = some last ∧ cur' = swapOut bs pos last ∧ slotsOut nm nl (nm r) r nl' ∧ ∃ gq capq, v = .slice (some ⟨gq, 0, none⟩) bs.length capq ∧ v' = .slice (some ⟨gq, 0, none⟩) (bs.length - 1) capq)

theorem leave_mid (h : MInv w xs sm ky nm hd tb l bs v nl W) {pos r idx : Nat} (hidx : idx ≤ 1023) (hpos : bs[pos]? = some r) (hlen : bs.length ≤ 1024) (s0 : 0 ≤ sm) (s1 : sm ≤ 4096) :
    Calls Yba.prog 12 #[.pointer (some ⟨w.heap.size + 8, 0, none⟩), .pointer (some ⟨r, 0, none⟩), .int .i64 idx] W fun e W' => e = .returned (.tuple #[]) ∧ ∃ cur' nl' tb' l' v', Fin w ky nm r idx (hd r) sm bs cur' nl' tb' l' v v' W W' ∧ Went nm r pos (hd r) bs nl v cur' nl' v' := by
  have hr : r ∈ bs := List.mem_of_getElem? hpos
  obtain ⟨t, n, root, p⟩ := h.pre hpos hlen s0 s1
  refine (leave_any idx hidx p).mono ?_
  rintro e W' ⟨rfl, W1, g, cap, d, ⟨h2, rfl⟩ | ⟨h1, W2, last, gq, capq, nl', f, hl, hv, hs, c⟩⟩
  · exact ⟨rfl, bs, nl, tb, l, v, fin_keep (pos := pos) h hr d, .inl ⟨h2, rfl, rfl, rfl⟩⟩
  · obtain ⟨tb', l', hf⟩ := fin_drop h hpos p d f hl hv c
    exact ⟨rfl, _, nl', tb', l', _, hf, .inr ⟨h1, last, hl, rfl, hs, gq, capq, hv, rfl⟩⟩
end Go.Proofs.Ybulkbhqs
