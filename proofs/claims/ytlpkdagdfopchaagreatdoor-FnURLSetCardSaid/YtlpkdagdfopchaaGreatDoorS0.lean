/- The start: a world in which the listed variables lie as they should. -/
import Derived.Test.YtlpkdagdfopchaaGreatDoorRows
import Derived.WalkKit
import Derived.ProofKit
import Derived.Lay
import Derived.LaidMore
import Derived.Stop.Joined
namespace Go.Proofs.YtlpkdagdfopchaaGreatDoor
open Go.RowKit Go.ChangeShapes Go.WideShapes Go.ChangeAt
set_option linter.unusedVariables false

theorem Tryz.own : ownKnob Tryz.prog.godebug = none := by kernel_rfl
def listed : List (String × DataW Unit) := Rows.fnURLSetRow.laid
set_option maxRecDepth 1000000 in
theorem plain_listed (W : World) : laidMetH Tryz.prog listed W = laidMet Tryz.prog listed W := MakeChecks.laidMetH_plain _ _ _ (by kernel_rfl)
set_option maxRecDepth 1000000 in
theorem start_met (os : Os) (args : Array Value) : laidMetH Tryz.prog listed ((World.laidAll Tryz.prog os listed).forCall (fun _ _ => 0) ⟨#[], args, []⟩).memory := by
  rw [plain_listed]
  exact laidMet_laidAll _ (by kernel_rfl) (by kernel_rfl)

end Go.Proofs.YtlpkdagdfopchaaGreatDoor
