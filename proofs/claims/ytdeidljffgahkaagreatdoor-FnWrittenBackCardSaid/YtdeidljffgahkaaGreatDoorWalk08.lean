/-
 The row of FnWrittenBack.
-/
import Derived.Test.YtdeidljffgahkaaGreatDoorWalk07
set_option linter.unusedVariables false
set_option maxRecDepth 100000
namespace Go.Proofs.YtdeidljffgahkaaGreatDoor.fnWrittenBack
open Go.ChangeShapes Go.WideShapes Go.ChangeAt Go.RowKit Go.Vg Pc
theorem lifted (os : Os) (started : os.Started) (H : Type) (enc : TypeId × Value -> H) (F : Stop.Interp) :
   ReturnsInHanded {} Tryz.checked os 5 .any ((OpenSpec.ofChange Rows.fnWrittenBackSpec).preRow enc Tryz.prog Tryz.f5 Rows.fnWrittenBackRow.domain false Rows.fnWrittenBackRow.laid) (((OpenSpec.ofChange Rows.fnWrittenBackSpec).at F).post enc Tryz.prog Tryz.f5 false true false false) := by
 obtain ⟨places, hx⟩ := reads os enc
 refine returnsInHanded_of_row (C := Tryz.checked) (s := OpenSpec.ofChange Rows.fnWrittenBackSpec) own started (by kernel_rfl) Tryz.func5
   (witness_row_atRef (enc := enc) (C := Tryz.checked) false (World.doorLaid Tryz.prog 400 os) args0 rfl (by kernel_rfl) (by kernel_rfl) (by kernel_rfl)
     (OpenSpec.preRow_of_cond 8 hx (by kernel_rfl) (fun k hk => by cases hk) (by kernel_rfl) (laid_met os))) ?_
 intro W base args ds gs before hval hW _ _ _ hL _ _
 exact contract H enc W base args ds gs before hval hW hL
end Go.Proofs.YtdeidljffgahkaaGreatDoor.fnWrittenBack
