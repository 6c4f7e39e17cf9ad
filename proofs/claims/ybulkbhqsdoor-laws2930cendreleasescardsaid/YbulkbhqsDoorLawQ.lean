/-
  The law's walk, put together. Own work on this program.
-/
import Derived.Test.YbulkbhqsDoorLawH
import Derived.Test.YbulkbhqsDoorLawL
import Derived.Test.YbulkbhqsDoorLawO
import Derived.Test.YbulkbhqsDoorLawP
namespace Go.Proofs.YbulkbhqsDoor
open Go.RowKit

theorem law_good (len cap b off : Nat) (ao : Option Addr) (hao : 0 < len → ao = some ⟨b, off, none⟩) (hl2 : len ≤ 512) (en : Bool) (ow : Nat → Bool) (ob md : Nat → Nat) (xp : Nat → Bool) (W : World) (hin : 0 < len → IsOps W b off len ow ob md xp) :
    Calls Ybad.prog 3 #[.slice ao len cap, .bool en] W fun e W' => e = .returned (.bool true) ∧ Below W.heap.size W W' :=
  partB.2.2 (fun _ => partC.2.2 (fun _ => partD) (fun _ => partE.2 (fun _ => partF.2 (fun _ => partG.2 (fun _ => partH)))))
    (fun _ => partI.2.2 (fun _ => partJ) (fun _ => partK.2.2 (fun _ => partL) (fun _ => partM.2 (fun _ => partN.2.2 (fun _ => partO) (fun _ => partP)))))
    len cap b off ao hao hl2 en ow ob md xp W hin
end Go.Proofs.YbulkbhqsDoor
