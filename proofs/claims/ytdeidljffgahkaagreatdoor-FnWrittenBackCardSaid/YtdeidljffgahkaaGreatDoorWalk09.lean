/-
 The row of FnWrittenBack.
-/
import Derived.Test.YtdeidljffgahkaaGreatDoorWalk08
set_option linter.unusedVariables false
set_option maxRecDepth 100000
namespace Go.Proofs.YtdeidljffgahkaaGreatDoor.fnWrittenBack
open Go.ChangeShapes Go.WideShapes Go.ChangeAt Go.RowKit Go.Vg Pc
theorem f10 : (Rows.fnWrittenBackRow.inPlace == Tryz.pinned.checked.prog.inPlace 5) = true := by kernel_rfl
theorem f11 : (Rows.fnWrittenBackRow.unfollowed == Tryz.pinned.checked.prog.unfollowed 5) = true := by kernel_rfl
end Go.Proofs.YtdeidljffgahkaaGreatDoor.fnWrittenBack
