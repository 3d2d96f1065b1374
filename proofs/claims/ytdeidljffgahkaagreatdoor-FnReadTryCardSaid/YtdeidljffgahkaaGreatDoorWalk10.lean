/-
  The row of FnReadTry.
-/
import Derived.Test.YtdeidljffgahkaaGreatDoorWalk09
set_option linter.unusedVariables false
set_option maxRecDepth 100000
namespace Go.Proofs.YtdeidljffgahkaaGreatDoor.fnReadTry
open Go.ChangeShapes Go.WideShapes Go.ChangeAt Go.RowKit Go.Vg Pc
theorem f12 : (Rows.fnReadTryRow.recurses == Tryz.pinned.checked.prog.recurses 4) = true := by kernel_rfl
theorem f13 : (Rows.fnReadTryRow.named == Tryz.pinned.checked.prog.varsNamed 4) = true := by kernel_rfl
theorem both {a b : Bool} (h : a = true) (k : b = true) : (a && b) = true := by rw [h, k]; rfl
end Go.Proofs.YtdeidljffgahkaaGreatDoor.fnReadTry
