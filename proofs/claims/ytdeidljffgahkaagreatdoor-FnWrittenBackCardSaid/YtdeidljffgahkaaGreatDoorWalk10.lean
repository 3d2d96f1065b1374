/-
 The row of FnWrittenBack.
-/
import Derived.Test.YtdeidljffgahkaaGreatDoorWalk09
set_option linter.unusedVariables false
set_option maxRecDepth 100000
namespace Go.Proofs.YtdeidljffgahkaaGreatDoor.fnWrittenBack
open Go.ChangeShapes Go.WideShapes Go.ChangeAt Go.RowKit Go.Vg Pc
theorem f12 : (Rows.fnWrittenBackRow.recurses == Tryz.pinned.checked.prog.recurses 5) = true := by kernel_rfl
theorem f13 : (Rows.fnWrittenBackRow.named == Tryz.pinned.checked.prog.varsNamed 5) = true := by kernel_rfl
theorem both {a b : Bool} (h : a = true) (k : b = true) : (a && b) = true := by rw [h, k]; rfl
end Go.Proofs.YtdeidljffgahkaaGreatDoor.fnWrittenBack
