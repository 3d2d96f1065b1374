/-
  The row of FnReadTry.
-/
import Derived.Test.YtdeidljffgahkaaGreatDoorWalk08
set_option linter.unusedVariables false
set_option maxRecDepth 100000
namespace Go.Proofs.YtdeidljffgahkaaGreatDoor.fnReadTry
open Go.ChangeShapes Go.WideShapes Go.ChangeAt Go.RowKit Go.Vg Pc
theorem f10 : (Rows.fnReadTryRow.inPlace == Tryz.pinned.checked.prog.inPlace 4) = true := by kernel_rfl
theorem f11 : (Rows.fnReadTryRow.unfollowed == Tryz.pinned.checked.prog.unfollowed 4) = true := by kernel_rfl
end Go.Proofs.YtdeidljffgahkaaGreatDoor.fnReadTry
