/-
 The row of FnWrittenBack.
-/
import Derived.Test.YtdeidljffgahkaaGreatDoorWalk11
set_option linter.unusedVariables false
set_option maxRecDepth 100000
namespace Go.Proofs.YtdeidljffgahkaaGreatDoor.fnWrittenBack
open Go.ChangeShapes Go.WideShapes Go.ChangeAt Go.RowKit Go.Vg Pc
theorem looks : true = Tryz.pinned.checked.prog.looks [] := by kernel_rfl
end Go.Proofs.YtdeidljffgahkaaGreatDoor.fnWrittenBack
