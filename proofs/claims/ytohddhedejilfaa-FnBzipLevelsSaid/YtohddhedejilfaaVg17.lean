/-
  The generator's soundness, part 14: results, functions.
-/
import Derived.Test.YtohddhedejilfaaVg16
import Derived.Conc.MuLone
set_option linter.unusedVariables false
namespace Go.Vg
variable {T : Tys}

theorem mem_get {α : Type} : ∀ (l : List α) (i : Nat) (x : α), l[i]? = some x → x ∈ l := fun l i x h => List.mem_of_getElem? h

theorem load_as {P : Program} {t : TypeId} {v y : Value} {w : World} (h : (Instr.loadAt t v).run P w = .ok y w) : (do loadVar t (← asAddr v) : Sem Value).run P w = .ok y w := by
  unfold Instr.loadAt at h
  cases v with
  | pointer a =>
    cases a with
    | none => simp [Instr.sureAddr, stuck] at h
    | some a => exact h
  | _ => simp [Instr.sureAddr, stuck] at h

def resRun (tmps : Array Value) : ResultVar → Sem Value
  | .tmp t => pure (tmps.getD t undef)
  | .cell a t => do loadVar t (← asAddr (tmps.getD a undef))
theorem resK_ok {C : Ctx T} {S : St T} {a : Act} {w : World} (hS : FrOK S a (Owns S.H) w) (hH : HOK C S.H w) : ∀ (l : List ResultVar) (k : List (SV T) → VCT), (resK C S l k).den →
    ∃ vs, (k vs).den ∧ SV.validL (Owns S.H) w vs ∧ (l.mapM (resRun a.tmps)).run C.P w = .ok (SV.toVL vs) w := by
  intro l
  induction l with
  | nil => intro k h; exact ⟨[], h, trivial, rfl⟩
  | cons r l ih =>
    intro k h
    cases r with
    | tmp t =>
      unfold resK at h
      split at h
      · rename_i x hx
        obtain ⟨g1, g2⟩ := hS.get t x hx
        obtain ⟨vs, h1, h2, h3⟩ := ih _ h
        refine ⟨x :: vs, h1, ⟨g2, h2⟩, ?_⟩
        rw [List.mapM_cons]
        have : a.tmps.getD t undef = x.toV := by rw [Array.getD_eq_getD_getElem?, g1]; rfl
        simp only [resRun, this, pure_bind, Sem.run_bind, h3, Result.andThen_ok]
        rfl
      · exact h.elim
    | cell p ty =>
      unfold resK at h
      split at h
      · rename_i x hx
        obtain ⟨g1, g2⟩ := hS.get p x hx
        obtain ⟨y, h, hy, hrun⟩ := ptrLoad_ok hH g2 h
        obtain ⟨vs, h1, h2, h3⟩ := ih _ h
        refine ⟨y :: vs, h1, ⟨hy, h2⟩, ?_⟩
        rw [List.mapM_cons]
        have e1 : a.tmps.getD p undef = x.toV := by rw [Array.getD_eq_getD_getElem?, g1]; rfl
        have e2 := load_as hrun
        rw [Sem.run_bind]
        have e3 : (resRun a.tmps (.cell p ty)).run C.P w = .ok y.toV w := by simp only [resRun, e1]; exact e2
        rw [e3, Result.andThen_ok, Sem.run_bind, h3, Result.andThen_ok]
        rfl
      · exact h.elim

theorem toVL_length : ∀ (l : List (SV T)), (SV.toVL l).length = l.length
  | [] => rfl
  | x :: r => by simp [SV.toVL, toVL_length r]
theorem tupleOf_ok (l : List (SV T)) : (if h : (SV.toVL l).toArray.size = 1 then (SV.toVL l).toArray[0] else .tuple (SV.toVL l).toArray) = (tupleOf l).toV := by
  match l with
  | [] => simp [SV.toVL, tupleOf, SV.toV]
  | [x] => simp [SV.toVL, tupleOf]
  | x :: y :: r => simp [SV.toVL, tupleOf, SV.toV]
theorem tupleOf_valid {I : Nat → Prop} {w : World} (l : List (SV T)) (h : SV.validL I w l) : (tupleOf l).valid I w := by
  match l, h with
  | [], h => exact h
  | [x], h => exact h.1
  | x :: y :: r, h => exact h

theorem results_ok {C : Ctx T} {S : St T} {a : Act} {w : World} {fn : Func} {k : List (SV T) → VCT} (hS : FrOK S a (Owns S.H) w) (hH : HOK C S.H w) (h : (resK C S fn.results.toList k).den) :
    ∃ vs, (k vs).den ∧ SV.validL (Owns S.H) w vs ∧ (results fn a.tmps).run C.P w = .ok (tupleOf vs).toV w := by
  obtain ⟨vs, h1, h2, h3⟩ := resK_ok hS hH _ _ h
  refine ⟨vs, h1, h2, ?_⟩
  have e : fn.results.mapM (resRun a.tmps) = List.toArray <$> fn.results.toList.mapM (resRun a.tmps) := Array.mapM_eq_mapM_toList
  show (do let vs ← fn.results.mapM (resRun a.tmps); pure (if h : vs.size = 1 then vs[0] else Value.tuple vs) : Sem Value).run C.P w = _
  rw [e]
  simp only [Sem.run_bind, Sem.run_map, h3, Result.andThen_ok]
  show Result.ok _ _ = _
  rw [tupleOf_ok]

theorem putArgs_get : ∀ (args : List (SV T)) (k : Nat) (f : Fr T) (i : Nat) (x : SV T), (putArgs args k f).get i = some x → (k ≤ i ∧ args[i - k]? = some x) ∨ f.get i = some x
  | [], k, f, i, x, h => .inr h
  | y :: r, k, f, i, x, h => by
    rcases putArgs_get r (k + 1) _ i x h with ⟨h1, h2⟩ | h1
    · refine .inl ⟨by omega, ?_⟩
      rw [show i - k = (i - (k + 1)) + 1 by omega]
      exact h2
    · rcases Fr.get_set h1 with ⟨rfl, h3, _⟩ | ⟨_, h4⟩
      · cases h3; exact .inl ⟨Nat.le_refl _, by simp⟩
      · exact .inr h4
theorem putArgs_len : ∀ (args : List (SV T)) (k : Nat) (f : Fr T), (putArgs args k f).length = f.length
  | [], k, f => rfl
  | y :: r, k, f => by rw [putArgs, putArgs_len r]; rfl
theorem toVL_get {I : Nat → Prop} {w : World} : ∀ (args : List (SV T)) (i : Nat) (x : SV T), SV.validL I w args → args[i]? = some x → (SV.toVL args)[i]? = some x.toV ∧ x.valid I w
  | [], i, x, _, h => by simp at h
  | y :: r, 0, x, hv, h => by simp at h; subst h; exact ⟨rfl, hv.1⟩
  | y :: r, i + 1, x, hv, h => toVL_get r i x hv.2 (by simpa using h)
theorem start_frok {fn : Func} {args : List (SV T)} {H : List (Ent T)} {w : World} (hv : SV.validL (Owns H) w args) (hn : args.length ≤ fn.ntmps) :
    FrOK (start fn args H) { tmps := (SV.toVL args).toArray ++ Array.replicate (fn.ntmps - (SV.toVL args).toArray.size) undef, defers := [] } (Owns H) w := by
  constructor
  · simp only [start, putArgs_len, Array.size_append, List.size_toArray, toVL_length, Array.size_replicate]
    omega
  · intro i x hx
    rcases putArgs_get _ _ _ _ _ hx with ⟨_, h⟩ | h
    · obtain ⟨h1, h2⟩ := toVL_get args i x hv h
      refine ⟨?_, h2⟩
      have hi : i < (SV.toVL args).toArray.size := by
        rcases Nat.lt_or_ge i (SV.toVL args).length with h0 | h0
        · simpa using h0
        · rw [List.getElem?_eq_none h0] at h1; cases h1
      rw [Array.getElem?_append_left hi]
      simpa using h1
    · obtain ⟨_, h⟩ := Fr.get_some h
      rw [Fm.get_mk] at h
      cases h

def EndOK (C : Ctx T) (H : List (Ent T)) (w : World) (K Kp : SV T → List (Ent T) → VCT) : Ending → World → Prop := fun e w' =>
  (∃ r H', e = .returned r.toV ∧ (K r H').den ∧ HOK C H' w' ∧ r.valid (Owns H') w' ∧ Stp (Owns H) (Owns H') w w') ∨
  (∃ x H', e = .panicked [{ v := x.toV, recovered := false }] ∧ (Kp x H').den ∧ HOK C H' w' ∧ x.valid (Owns H') w' ∧ Stp (Owns H) (Owns H') w w')

theorem calls_wp {P : Program} {f : FuncId} {fn : Func} {c : Code} {args : Array Value} {w : World} {R : Ending → World → Prop} (hf : P.funcs[f]? = some fn) (hb : fn.body = some c)
    (h : c.wp P (bodyPost P fn R) { tmps := args ++ Array.replicate (fn.ntmps - args.size) undef, defers := [] } w) : Calls P f args w R := calls_of_wp hf hb h

theorem fnx_ok {C : Ctx T} (hz : ZOK C) {sp : Nat → Option (PT T)} (hsp : ∀ f pt, sp f = some pt → SpecOK C f pt) (hm : C.P.follows .mixedOrders = true) {ann : Ann T} {f : Nat} {fn : Func} (hf : C.P.funcs[f]? = some fn) (hlx : lexF fn = true)
    {args : List (SV T)} {H : List (Ent T)} {K Kp : SV T → List (Ent T) → VCT} {w : World} (h : (fnx C sp ann fn args H K Kp).den) (hI : HInv C args H w) :
    Calls C.P f (SV.toVL args).toArray w (EndOK C H w K Kp) := by
  unfold fnx at h
  split at h
  · rename_i c hc
    split at h
    case isFalse => exact h.elim
    rename_i hn
    rw [forceSt_eq] at h
    refine calls_wp hf hc (wp_mono (codex_ok hz hsp hm c (by simpa [lexF, hc] using hlx) (start fn args H) _ _ w (start_frok hI.2 hn) hI.1 h) ?_)
    rintro e a' w' ⟨ex, S', hx, hk, hl⟩
    cases ex with
    | normal =>
      cases hx
      obtain ⟨vs, h1, h2, h3⟩ := results_ok hl.fr hl.H hk
      exact ⟨hl.defers, _, h3, .inl ⟨_, _, rfl, h1, hl.H, tupleOf_valid vs h2, hl.stp⟩⟩
    | ret =>
      cases hx
      obtain ⟨vs, h1, h2, h3⟩ := results_ok hl.fr hl.H hk
      exact ⟨hl.defers, _, h3, .inl ⟨_, _, rfl, h1, hl.H, tupleOf_valid vs h2, hl.stp⟩⟩
    | panic x =>
      obtain ⟨rfl, hx⟩ := hx
      exact ⟨hl.defers, .inr ⟨_, _, rfl, hk, hl.H, hx, hl.stp⟩⟩
    | exit i => exact hk.elim
    | goto i => exact hk.elim
  · exact h.elim

/-- A contract from the conditions of the function's text. -/
theorem spec_of_fnx {C : Ctx T} (hz : ZOK C) {sp : Nat → Option (PT T)} (hsp : ∀ f pt, sp f = some pt → SpecOK C f pt) (hm : C.P.follows .mixedOrders = true) {ann : Ann T} {f : Nat} {fn : Func} (hf : C.P.funcs[f]? = some fn)
    (hname : (fn.name == "runtime.NumGoroutine") = false) (hlx : lexF fn = true) {pt : PT T} (h : ∀ args H K Kp, (pt args H K Kp).den → (fnx C sp ann fn args H K Kp).den) (hb : fn.body.isSome = true) : SpecOK C f pt := by
  obtain ⟨c, hc⟩ := Option.isSome_iff_exists.mp hb
  refine ⟨fun args w => MuLone.run_callFunc_enter hf hname hc args w, fun args H K Kp w hp hI => ?_⟩
  exact fnx_ok hz hsp hm hf hlx (h args H K Kp hp) hI
end Go.Vg
