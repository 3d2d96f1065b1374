/-
 The row of FnWrittenBack.
-/
import Derived.Test.YtdeidljffgahkaaGreatDoorWalk06
set_option linter.unusedVariables false
set_option maxRecDepth 100000
namespace Go.Proofs.YtdeidljffgahkaaGreatDoor.fnWrittenBack
open Go.ChangeShapes Go.WideShapes Go.ChangeAt Go.RowKit Go.Vg Pc
theorem own : ownKnob Tryz.prog.godebug = none := by kernel_rfl
theorem laidOut : laidOutB Tryz.prog = true := by kernel_rfl
theorem read22 : Tryz.prog.readableRec 22 = true := by kernel_rfl
theorem read23 : Tryz.prog.readableRec 23 = true := by kernel_rfl
theorem row22 : 22 < Tryz.prog.types.size := of_decide_eq_true (by kernel_rfl)
theorem row23 : 23 < Tryz.prog.types.size := of_decide_eq_true (by kernel_rfl)
theorem contract (H : Type) (enc : TypeId × Value -> H) (W : World) (base : Nat) (args : Array Value) (ds gs : List (DataW H)) (before : List MemPlace)
   (hval : ∀ (j : Nat) t v, Tryz.f5.params[j]? = some t -> args[j]? = some v -> Value.okWide Tryz.prog W .any base t v)
   (hW : DataW.Whole enc Tryz.prog Tryz.f5.params.toList Rows.fnWrittenBackSpec.vars false W args.toList ds gs before) (hL : laidMetH Tryz.prog Rows.fnWrittenBackRow.laid W) :
   Calls Tryz.prog 5 args W fun e W' => ∃ v, e = .returned v /\ Rows.fnWrittenBackSpec.post enc Tryz.prog Tryz.f5 false true false false W args v W' := by
 have hW' := hW
 obtain ⟨p, q, hA0, hV, rfl, hfz, hnd⟩ := hW
 have hA : DataW.TrodAll enc Tryz.prog W 0 (fun _ => true) true Tryz.f5.params.toList args.toList ds p := hA0
 rw [Tryz.params5] at hA hval
 obtain ⟨v0, vs0, d0, ds0, p0, q0, hargs, rfl, rfl, h0, r0⟩ := trodAll_cons hA
 obtain ⟨v1, vs1, d1, ds1, p1, q1, rfl, rfl, rfl, h1, r1⟩ := trodAll_cons r0
 obtain ⟨v2, vs2, d2, ds2, p2, q2, rfl, rfl, rfl, h2, r2⟩ := trodAll_cons r1
 obtain ⟨v3, vs3, d3, ds3, p3, q3, rfl, rfl, rfl, h3, r3⟩ := trodAll_cons r2
 obtain ⟨rfl, rfl, rfl⟩ := trodAll_nil r3
 obtain rfl : args = #[v0, v1, v2, v3] := by cases args; simp_all
 obtain ⟨rfl, rfl⟩ := trodVars_none hV
 obtain ⟨l0, hn0, ro0⟩ := open_parts (okWide_slice Tryz.underlying22 (hval 0 22 v0 rfl rfl)) h0
 obtain ⟨l1, hn1, ro1⟩ := open_bytes (okWide_slice Tryz.underlying23 (hval 1 23 v1 rfl rfl)) h1
 obtain ⟨l2, hn2, ro2⟩ := open_bytes (okWide_slice Tryz.underlying23 (hval 2 23 v2 rfl rfl)) h2
 obtain ⟨b3, rfl, rfl, rfl⟩ := open_bool Tryz.underlying4 (hval 3 4 v3 rfl rfl) h3
 obtain ⟨G, hg⟩ := globs hL
 clear hA0 hval
 have hlt : ∀ x ∈ p0 ++ (p1 ++ (p2 ++ ([] ++ []))), x.block < W.heap.size := fun x hx => by
   have := hW'.lt x (by simpa using hx)
   simpa using this
 refine (walk5 G W hg v0 l0 v1 l1 v2 l2 b3 hn0 hn1 hn2 ro0 ro1 ro2).mono fun e W' ⟨he, bel⟩ => ?_
 subst he
 refine ⟨_, rfl, _, _, _, [], p0 ++ (p1 ++ (p2 ++ ([] ++ []))), [], hW', trodAll_mk1 (shut_bool Tryz.underlying4 _), ?_, rfl, bel.frame _, fun h => by cases h⟩
 refine trodAll_cons_mk (Below.trod laidOut read22 row22 h0 bel fun x hx => hlt x (by simp [hx])) ?_
 refine trodAll_cons_mk (Below.trod laidOut read23 row23 h1 bel fun x hx => hlt x (by simp [hx])) ?_
 refine trodAll_cons_mk (Below.trod laidOut read23 row23 h2 bel fun x hx => hlt x (by simp [hx])) ?_
 refine trodAll_cons_mk (shut_bool Tryz.underlying4 _) ?_
 exact trodAll_mk0
noncomputable def args0 : Array Value := #[.slice none 0 0, .slice none 0 0, .slice none 0 0, .bool false]
theorem laid_met (os : Os) : laidMetH Tryz.prog Rows.fnWrittenBackRow.laid ((World.doorLaid Tryz.prog 400 os).forCall (fun _ _ => 0) ⟨#[], args0, []⟩).memory :=
 laidMetH_of_parts3 (fuel := 8) (laidMet_of_run' 8 (by kernel_rfl) (by kernel_rfl)) (by kernel_rfl) (by kernel_rfl)
theorem reads (os : Os) {H : Type} (enc : TypeId × Value -> H) : ∃ places, DataW.whole enc Tryz.prog ((World.doorLaid Tryz.prog 400 os).forCall (fun _ _ => 0) ⟨#[], args0, []⟩).memory Tryz.f5.params.toList Rows.fnWrittenBackSpec.vars false args0.toList 8 = some ([.nil, .nil, .nil, .lit (.bool false)], [], places) :=
 ⟨[], by kernel_rfl⟩
end Go.Proofs.YtdeidljffgahkaaGreatDoor.fnWrittenBack
