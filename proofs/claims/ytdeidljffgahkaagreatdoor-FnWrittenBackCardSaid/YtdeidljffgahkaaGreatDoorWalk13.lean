/-
 'laws.FnWrittenBack' is proved as given ('Rows.FnWrittenBackCardSaid'): for every input it returns true and leaves what was there as it was. Conditions: none beyond the given statement's own (io.EOF, io.ErrUnexpectedEOF and io.ErrShortBuffer hold what the program's text lays).
-/
import Derived.Test.YtdeidljffgahkaaGreatDoorWalk12
set_option linter.unusedVariables false
set_option maxRecDepth 100000
namespace Go.Proofs.YtdeidljffgahkaaGreatDoor.fnWrittenBack
open Go.ChangeShapes Go.WideShapes Go.ChangeAt Go.RowKit Go.Vg Pc
theorem plain (f : FuncId) (fn : Func) (hf : Tryz.pinned.checked.prog.funcNamed "pub-calthrop/laws.FnWrittenBack" = some f) (hfn : Tryz.pinned.checked.prog.funcs[f]? = some fn) :
   true = Tryz.pinned.checked.prog.looks [] /\ ∀ (j : Nat) t, fn.params[j]? = some t -> Tryz.pinned.checked.prog.wantsStandIn t = false := by
 obtain rfl : f = 5 := Option.some.inj ((show Tryz.prog.funcNamed "pub-calthrop/laws.FnWrittenBack" = some 5 by kernel_rfl).symm.trans hf) |>.symm
 obtain rfl : fn = Tryz.f5 := (Option.some.inj (Tryz.func5.symm.trans hfn)).symm
 refine ⟨looks, fun j t ht => ?_⟩
 rw [Tryz.params5] at ht
 have hm : t ∈ [22, 23, 23, 4] := by simpa using Array.mem_of_getElem? ht
 have hall : ([22, 23, 23, 4].all fun u => !Tryz.prog.wantsStandIn u) = true := by kernel_rfl
 exact (show Tryz.prog.wantsStandIn t = false by simpa using List.all_eq_true.1 hall t hm)
theorem card : Rows.FnWrittenBackCardSaid :=
 Claim7.holds_tied_plain_at .later [] _ _ _ _ said (fun _ h => by cases h) (by kernel_rfl) (fun _ h => by cases h) fnWrittenBack_row_tie rfl ⟨rfl, rfl⟩ (by kernel_rfl) rfl plain (by kernel_rfl)
end Go.Proofs.YtdeidljffgahkaaGreatDoor.fnWrittenBack
namespace Go.Proofs.YtdeidljffgahkaaGreatDoor
theorem proved : Rows.FnWrittenBackCardSaid := fnWrittenBack.card
#print axioms proved
end Go.Proofs.YtdeidljffgahkaaGreatDoor
