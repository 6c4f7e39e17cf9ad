/-
  'newest' by a contract. Own work on this program.
-/
import Derived.Test.YbulkbhqsMap
namespace Go.Proofs.Ybulkbhqs
open Go.RowKit

/-- The index that a slot of 'newestLocks' names. -/
def nix (nm : Nat → Nat) : Option Nat → ByteArray
  | none => ⟨#[]⟩
  | some b => nms (nm b)

/-- The slot s of the four holds run nl s, if one. -/
structure SlotIs (W : World) (T off : Nat) (nm : Nat → Nat) (nl : Nat → Option Nat) (s : Nat) : Prop where
  ix : W.cell? ⟨T, off + s * 3, none⟩ = some (.string (nix nm (nl s)))
  rn : W.cell? ⟨T, off + s * 3 + 1, none⟩ = some (ptr (nl s))
  rq : W.cell? ⟨T, off + s * 3 + 2, none⟩ = some (.pointer none)

def hit (nm : Nat → Nat) (nl : Nat → Option Nat) (ν s : Nat) : Prop := ∃ b, nl s = some b ∧ nm b = ν

/-- The first slot that names ν. -/
def First (nm : Nat → Nat) (nl : Nat → Option Nat) (ν : Nat) : Option Nat → Prop
  | none => ∀ s, s < 4 → ¬ hit nm nl ν s
  | some s => s < 4 ∧ hit nm nl ν s ∧ ∀ s', s' < s → ¬ hit nm nl ν s'

/-- A pointer to a slot. -/
def slotPtr (T off : Nat) : Option Nat → Value
  | none => .pointer none
  | some s => .pointer (some ⟨T, off + s * 3, none⟩)

theorem nms_ne {a b : Nat} (ha : a < 2) (hb : b < 2) (h : a ≠ b) : ¬ (nms a).toList = (nms b).toList := by
  match a, b, ha, hb with
  | 0, 0, _, _ => exact absurd rfl h
  | 0, 1, _, _ => decide +kernel
  | 1, 0, _, _ => decide +kernel
  | 1, 1, _, _ => exact absurd rfl h

theorem nix_miss {nm : Nat → Nat} {nl : Nat → Option Nat} {ν s : Nat} (hν : ν < 2) (hn : ∀ b, nl s = some b → nm b < 2) (h : ¬ hit nm nl ν s) : ¬ (nix nm (nl s)).toList = (nms ν).toList := by
  cases e : nl s with
  | none =>
    show ¬ (⟨#[]⟩ : ByteArray).toList = (nms ν).toList
    match ν, hν with
    | 0, _ => decide +kernel
    | 1, _ => decide +kernel
  | some b => exact nms_ne (hn b e) hν (fun k => h ⟨b, e, k⟩)

set_option maxRecDepth 100000 in
set_option maxHeartbeats 1000000 in
theorem newest_any (T : Nat) (nm : Nat → Nat) (nl : Nat → Option Nat) (ν : Nat) (hν : ν < 2) (hn : ∀ s, s < 4 → ∀ b, nl s = some b → nm b < 2) (W : World) (hs : ∀ s, s < 4 → SlotIs W T 13 nm nl s) :
    Calls Yba.prog 18 #[.pointer (some ⟨T, 0, none⟩), .string (nms ν)] W fun e W' => ∃ o, e = .returned (slotPtr T 13 o) ∧ First nm nl ν o ∧ W' = W := by
  go_enter Yba.func18, Yba.ntmps18
  go_wp2
  go_loop [7] (fun i => ∃ s : Nat, s ≤ 4 ∧ i = .int .i64 s ∧ Hid (∀ s', s' < s → ¬ hit nm nl ν s')) (fun i => 4 - (intOf i).toNat)
  case atStart => exact ⟨0, by omega, rfl, fun s' h => by omega⟩
  case round =>
    obtain ⟨s, hs4, rfl, H⟩ := hrel
    by_cases hlt : s < 4
    · obtain ⟨c1, c2, c3⟩ := hs s hlt
      have HS := (show Hid _ from hs)
      clear hs
      by_cases hh : hit nm nl ν s
      · have HH := (show Hid _ from hh)
        obtain ⟨b, hb, rfl⟩ := hh
        rw [hb] at c1 c2
        simp only [nix, ptr, pa] at c1 c2
        clear hb
        go_wp2
        go_ret
        exact ⟨some s, rfl, ⟨hlt, HH.out, H.out⟩, rfl⟩
      · have e1 := nix_miss hν (hn s hlt) hh
        have HH := (show Hid _ from hh)
        clear hh
        go_wp2
        go_round
        case rel =>
          refine ⟨s + 1, by omega, by go_num, fun s' h' => ?_⟩
          by_cases e : s' = s
          · subst e; exact HH.out
          · exact H.out s' (by omega)
        case measure => simp [intOf]; omega
    · go_wp2
      go_ret
      exact ⟨none, rfl, fun s' h' => H.out s' (by omega), rfl⟩
end Go.Proofs.Ybulkbhqs
