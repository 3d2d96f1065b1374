/-
  Functions that are read on the spot; the whole of a call.
-/
import Derived.Test.YtohddhedejilfaaVg20
import Derived.Below
set_option linter.unusedVariables false
namespace Go.Vg
variable {T : Tys}

/-- Contracts: first those that are given; the others' texts are read on the spot, d deep. -/
def inlD (C : Ctx T) (base : Nat → Option (PT T)) (body : Nat → Option (Func × Ann T)) : Nat → Nat → Option (PT T)
  | 0, f => base f
  | d + 1, f => match base f with
    | some pt => some pt
    | none => match body f with
      | some (fn, ann) => some (fnx C (inlD C base body d) ann fn)
      | none => none

def BodyOK (C : Ctx T) (body : Nat → Option (Func × Ann T)) : Prop := ∀ f fn ann, body f = some (fn, ann) → C.P.funcs[f]? = some fn ∧ (fn.name == "runtime.NumGoroutine") = false ∧ fn.body.isSome = true ∧ lexF fn = true

theorem inlD_ok {C : Ctx T} (hz : ZOK C) (hm : C.P.follows .mixedOrders = true) {base : Nat → Option (PT T)} (hbase : ∀ f pt, base f = some pt → SpecOK C f pt) {body : Nat → Option (Func × Ann T)} (hbody : BodyOK C body) :
    ∀ (d : Nat) (f : Nat) (pt : PT T), inlD C base body d f = some pt → SpecOK C f pt
  | 0 => hbase
  | d + 1 => by
    intro f pt h
    unfold inlD at h
    split at h
    · rename_i p hp
      cases h
      exact hbase f _ hp
    · split at h
      · rename_i fn ann hb
        cases h
        obtain ⟨h1, h2, h3, h4⟩ := hbody f fn ann hb
        exact spec_of_fnx hz (inlD_ok hz hm hbase hbody d) hm h1 h2 h4 (fun _ _ _ _ h => h) h3
      · cases h

/-- ████ A WHOLE CALL: from its conditions. ████ -/
theorem top_ok {C : Ctx T} {f : Nat} {pt : PT T} (hs : SpecOK C f pt) (args : List (SV T)) (w : World) (hg : ∀ g v, (g, v) ∈ C.glob → w.cell? ⟨g, 0, none⟩ = some v ∧ v.oneCell' = true ∧ g < w.heap.size)
    (ha : SV.validL (fun _ => False) w args) (v : Value) (hc : Met (pt args [] (fun r _ => .leaf (r.toV = v)) (fun _ _ => .ff "it panics"))) :
    Calls C.P f (SV.toVL args).toArray w fun e w' => e = .returned v ∧ RowKit.Below w.heap.size w w' := by
  have h := hc.den
  have no : ∀ k, ¬ Owns ([] : List (Ent T)) k := by rintro k ⟨i, e, hi, _⟩; simp at hi
  have e1 : (Owns ([] : List (Ent T))) = fun _ => False := by funext k; simpa using no k
  refine (hs.calls args [] _ _ w h ⟨⟨fun i e hi => by simp at hi, fun i j e e' k hi => by simp at hi, fun k hk => (no k hk).elim, fun g v hv => ⟨(hg g v hv).1, (hg g v hv).2.1, no g, (hg g v hv).2.2⟩⟩, by rw [e1]; exact ha⟩).mono ?_
  rintro e w' (⟨r, H', rfl, hk, hH', hr, hst⟩ | ⟨r, H', rfl, hk, hH', hr, hst⟩)
  · refine ⟨by rw [show r.toV = v from hk], ?_⟩
    exact ⟨hst.os, hst.tape, hst.output, hst.size, fun b hb => hst.block b hb (no b)⟩
  · exact hk.elim

/-- Pieces of zero values: plain cells, rows as long as they say. -/
def zeroB : List (Seg T) → Bool
  | [] => true
  | .c (.v x) :: r => x.oneCell' && zeroB r
  | .r _ n l :: r => Nat.beq l.length n && zeroB r
  | _ => false
theorem zeroB_ok (I : Nat → Prop) (w : World) : ∀ z : List (Seg T), zeroB z = true → Seg.validL I w z
  | [], _ => trivial
  | .c x :: r, h => by
    cases x with
    | v x =>
      simp only [zeroB, Bool.and_eq_true] at h
      exact ⟨⟨h.1, h.1⟩, zeroB_ok I w r h.2⟩
    | _ => cases h
  | .r e n l :: r, h => by
    simp only [zeroB, Bool.and_eq_true] at h
    exact ⟨Nat.eq_of_beq_eq_true h.1, zeroB_ok I w r h.2⟩
theorem zOK_of {C : Ctx T} (h : ∀ t z, C.zt t = some z → ((C.P.info? t).bind (·.zero)).map (·.cells.toList) = some (Seg.cellsL z) ∧ zeroB z = true) : ZOK C :=
  fun t z hz => ⟨(h t z hz).1, fun I w => zeroB_ok I w z (h t z hz).2⟩
end Go.Vg
