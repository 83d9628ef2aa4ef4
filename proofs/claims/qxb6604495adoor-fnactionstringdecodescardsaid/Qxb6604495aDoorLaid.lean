/-
  What the rows' condition on the listed tables gives (the powers of ten), and a start that meets it: the heap that the door's own run leaves.
-/
import Derived.Test.Qxb6604495aDoorStrs
import Derived.ProofKit
import Derived.LaidMore
import Derived.OpenShut
import Derived.Stop.Joined
import Derived.Stop.LaidErr
import Derived.Lib.LaidTab
namespace Go.Proofs.Qxb6604495aDoor
open Go.ChangeShapes Go.WideShapes Go.ChangeAt Go.RowKit
def laid3 : List (String × DataW Unit) := Rows.fnActionStringDecodesRow.laid
theorem own : ownKnob Tryd.prog.godebug = none := by kernel_rfl
theorem powType : (Tryd.prog.globals[0]?).map (·.type) = some 41 := by kernel_rfl
set_option maxRecDepth 100000 in
theorem pow_of_laid {W : World} (h : laidMetH Tryd.prog laid3 W) : Lib.TabIs Tryd.prog W powName .u64 Lib.pow10Tab := by
  rw [MakeChecks.laidMetH_plain _ _ _ (by kernel_rfl)] at h
  have h2 := laidMet.tail (laidMet.tail h)
  exact Lib.tabIs_of_head (rest := []) powG powType Tryd.underlying41 Tryd.underlying31 (by kernel_rfl) (by kernel_rfl) h2
set_option maxRecDepth 100000 in
theorem door_met (os : Os) (args : Array Value) : laidMetH Tryd.prog laid3 ((World.doorLaid Tryd.prog 24 os).forCall (fun _ _ => 0) ⟨#[], args, []⟩).memory :=
  laidMetH_of_parts3 (fuel := 8) (laidMet_of_run' 8 (by kernel_rfl) (by kernel_rfl)) (by kernel_rfl) (by kernel_rfl)
end Go.Proofs.Qxb6604495aDoor
