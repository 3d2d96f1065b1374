/-
  'laws.FnBzipLevels' is proved as given ('Rows.FnBzipLevelsSaid'): for every int it returns true and leaves what was there as it was. Conditions: none beyond the given statement's own.
-/
import Derived.Test.YtohddhedejilfaaBzF
import Derived.Test.YtohddhedejilfaaRows
import Derived.WalkKit
import Derived.ProofKit
import Derived.OpenShut
import Derived.ShutString
import Derived.ChangeOld
import Derived.Below
set_option linter.unusedVariables false
set_option maxRecDepth 100000
namespace Go.Proofs.Ytohddhedejilfaa
open Go.ChangeShapes Go.WideShapes Go.ChangeAt Go.RowKit Go.Vg Bz

theorem zok : ZOK CC := zOK_of fun t z h => by
  have h : zt t = some z := h
  unfold zt at h
  split at h <;> first | (cases h; exact ⟨by kernel_rfl, by kernel_rfl⟩) | cases h
theorem bodyOK : BodyOK CC body := fun f fn ann h => by
  unfold body at h
  split at h <;> first | cases h | skip
  · exact ⟨Try.func4, by kernel_rfl, by kernel_rfl, by kernel_rfl⟩
  · exact ⟨Try.func5, by kernel_rfl, by kernel_rfl, by kernel_rfl⟩
  · exact ⟨Try.func6, by kernel_rfl, by kernel_rfl, by kernel_rfl⟩
  · exact ⟨Try.func7, by kernel_rfl, by kernel_rfl, by kernel_rfl⟩
  · exact ⟨Try.func8, by kernel_rfl, by kernel_rfl, by kernel_rfl⟩
  · exact ⟨Try.func9, by kernel_rfl, by kernel_rfl, by kernel_rfl⟩
  · exact ⟨Try.func10, by kernel_rfl, by kernel_rfl, by kernel_rfl⟩
theorem mixed : CC.P.follows .mixedOrders = true := by kernel_rfl
theorem spec3 : SpecOK CC 3 (fnx CC (inlD CC (fun _ => none) body 5) noAnn Try.f3) :=
  spec_of_fnx zok (inlD_ok zok mixed (fun _ _ h => by cases h) bodyOK 5) mixed Try.func3 (by kernel_rfl) (by kernel_rfl) (fun _ _ _ _ h => h) (by kernel_rfl)
theorem walk (n : Int) (w : World) : Calls Try.prog 3 #[.int .i64 n] w fun e w' => e = .returned (.bool true) ∧ Below w.heap.size w w' :=
  top_ok spec3 [.v (.int .i64 n)] w (fun g v h => by cases h) ⟨rfl, trivial⟩ (.bool true) (vc3 n)

theorem own : ownKnob Try.prog.godebug = none := by kernel_rfl
theorem laidOut : laidOutB Try.prog = true := by kernel_rfl
theorem lifted (os : Os) (started : os.Started) (H : Type) (enc : TypeId × Value → H) :
    ReturnsInHanded {} Try.checked os 3 .any (Rows.fnBzipLevelsSpec.pre6 enc Try.prog Try.f3 Rows.fnBzipLevelsRow.domain false) (Rows.fnBzipLevelsSpec.post enc Try.prog Try.f3 false true false false) := by
  refine returnsInHanded_of_change (C := Try.checked) own started (by kernel_rfl) Try.func3
    (ChangeSpec.witness6 (enc := enc) (C := Try.checked) false ⟨#[], #[.int .i64 0], []⟩ 8 (by kernel_rfl) (by kernel_rfl) (by kernel_rfl) (by kernel_rfl)) ?_
  intro W base args ds gs before hval0 hW hcnd _
  have hval : ∀ (j : Nat) t v, Try.f3.params[j]? = some t → args[j]? = some v → Value.okWide Try.prog W .any base t v := hval0
  have hW' := hW
  obtain ⟨p, q, hA0, hV, rfl, hfz, hnd⟩ := hW
  have hA : DataW.TrodAll enc Try.prog W 0 (fun _ => true) true Try.f3.params.toList args.toList ds p := hA0
  rw [Try.params3] at hA hval
  obtain ⟨v0, vs0, d0, ds0, p0, q0, hargs, rfl, rfl, h0, r0⟩ := trodAll_cons hA
  obtain ⟨rfl, rfl, rfl⟩ := trodAll_nil r0
  obtain rfl : args = #[v0] := by cases args; simp_all
  obtain ⟨rfl, rfl⟩ := trodVars_none hV
  obtain ⟨a0, rfl, rfl, rfl, w0⟩ := open_int Try.underlying3 (hval 0 3 v0 rfl rfl) h0
  clear hA0 hval0
  refine (walk a0 W).mono fun e W' ⟨he, bel⟩ => ?_
  subst he
  exact ⟨_, rfl, _, _, _, [], _, [], hW', trodAll_mk1 (shut_bool Try.underlying4 _), (trodAll_cons_mk (shut_int Try.underlying3 w0) trodAll_mk0), rfl, bel.frame _, fun h => by cases h⟩

theorem over : Rows.fnBzipLevelsRow.holds Try.pinned (OpenSpec.ofChange Rows.fnBzipLevelsSpec) :=
  OpenClaim.holds_of_wide 3 Try.f3 rfl rfl rfl rfl rfl rfl rfl ⟨rfl, rfl, rfl, rfl, rfl⟩ rfl rfl rfl rfl rfl (by kernel_rfl) Try.func3 (by kernel_rfl)
    (of_decide_eq_true (by kernel_rfl)) (by unfold Func.isWrapper; first | (rw [if_pos (by decide +kernel)]; kernel_rfl) | (rw [if_neg (by decide +kernel)]; exact ⟨rfl, rfl⟩))
    (fun os started H enc _ => lifted os started H enc)

/-- ████ THE STATEMENT ████ -/
theorem proved : Rows.FnBzipLevelsSaid := over
#print axioms proved
end Go.Proofs.Ytohddhedejilfaa
