/-
  The row of FnRead.
-/
import Derived.Test.YtdeidljffgahkaaGreatDoorWalk08
set_option linter.unusedVariables false
set_option maxRecDepth 100000
namespace Go.Proofs.YtdeidljffgahkaaGreatDoor.fnRead
open Go.ChangeShapes Go.WideShapes Go.ChangeAt Go.RowKit Go.Vg Pc
theorem f10 : (Rows.fnReadRow.inPlace == Tryz.pinned.checked.prog.inPlace 3) = true := by kernel_rfl
theorem f11 : (Rows.fnReadRow.unfollowed == Tryz.pinned.checked.prog.unfollowed 3) = true := by kernel_rfl
end Go.Proofs.YtdeidljffgahkaaGreatDoor.fnRead
