/-
  The generator's soundness, part 7: what makes and writes memory.
-/
import Derived.Test.YtohddhedejilfaaVg9
import Derived.Maps.AppendAt
import Derived.Laws.MakeOwn
set_option linter.unusedVariables false
namespace Go.Vg
variable {T : Tys}

/-! ### Blocks written -/
def setBlk (w : World) (b : Nat) (cs : List Value) (ty : TypeId) : World := { w with heap := w.heap.setIfInBounds b (.cells cs.toArray ty (0, 0)) }

theorem setCell_blk {w : World} {b o : Nat} {cs : List Value} {ty : TypeId} (v : Value) (h : w.heap[b]? = some (.cells cs.toArray ty (0, 0))) : w.setCell ⟨b, o, none⟩ v = setBlk w b (cs.set o v) ty := by
  unfold World.setCell setBlk
  congr 1
  apply Array.ext_getElem?
  intro i
  rw [Array.getElem?_modify, Array.getElem?_setIfInBounds]
  have hb : b < w.heap.size := by
    rcases Nat.lt_or_ge b w.heap.size with h0 | h0
    · exact h0
    · rw [Array.getElem?_eq_none h0] at h; cases h
  by_cases h0 : b = i
  · subst h0
    have hg : w.heap[b] = .cells cs.toArray ty (0, 0) := by simpa [Array.getElem?_eq_getElem hb] using h
    simp [hb, hg]
  · simp [h0]
theorem setBlk_get {w : World} {b : Nat} {cs : List Value} {ty : TypeId} (hb : b < w.heap.size) : (setBlk w b cs ty).heap[b]? = some (.cells cs.toArray ty (0, 0)) := by
  simp [setBlk, hb]
theorem setBlk_set {w : World} {b : Nat} {cs ds : List Value} {ty : TypeId} : setBlk (setBlk w b cs ty) b ds ty = setBlk w b ds ty := by
  simp [setBlk]
theorem setBlk_other {w : World} {b k : Nat} {cs : List Value} {ty : TypeId} (h : k ≠ b) : (setBlk w b cs ty).heap[k]? = w.heap[k]? := by
  simp only [setBlk]
  rw [Array.getElem?_setIfInBounds_ne (fun h' => h h'.symm)]
theorem setBlk_size {w : World} {b : Nat} {cs : List Value} {ty : TypeId} : (setBlk w b cs ty).heap.size = w.heap.size := by simp [setBlk]
theorem setBlk_same {w : World} {b : Nat} {cs : List Value} {ty : TypeId} (h : w.heap[b]? = some (.cells cs.toArray ty (0, 0))) : setBlk w b cs ty = w := by
  unfold setBlk
  have : w.heap.setIfInBounds b (.cells cs.toArray ty (0, 0)) = w.heap := by
    apply Array.ext_getElem?
    intro i
    rw [Array.getElem?_setIfInBounds]
    split
    · rename_i h0; subst h0
      split
      · exact h.symm
      · rename_i h1; rw [Array.getElem?_eq_none (by omega)]
    · rfl
  rw [this]

def splice (cs : List Value) (o : Nat) (vs : List Value) : List Value := cs.take o ++ vs ++ cs.drop (o + vs.length)
theorem splice_length {cs vs : List Value} {o : Nat} (h : o + vs.length ≤ cs.length) : (splice cs o vs).length = cs.length := by simp [splice]; omega

theorem frozen_blk {w : World} {b o : Nat} {cs : List Value} {ty : TypeId} (h : w.heap[b]? = some (.cells cs.toArray ty (0, 0))) : w.frozen? ⟨b, o, none⟩ = false := by simp [World.frozen?, h]

theorem storeCells_ok {P : Program} {b o : Nat} {ty : TypeId} : ∀ (vs : List Value) (i : Nat) (w : World) (cs : List Value), w.heap[b]? = some (.cells cs.toArray ty (0, 0)) → (∀ v ∈ vs, v.oneCell' = true) →
    o + i + vs.length ≤ cs.length → (storeCells ⟨b, o, none⟩ vs i).run P w = .ok () (setBlk w b (splice cs (o + i) vs) ty) := by
  intro vs
  induction vs with
  | nil =>
    intro i w cs h _ _
    have : splice cs (o + i) [] = cs := by simp [splice]
    rw [this, setBlk_same h]
    rfl
  | cons v r ih =>
    intro i w cs h h1 hl
    simp only [List.length_cons] at hl
    have hb : b < w.heap.size := by
      rcases Nat.lt_or_ge b w.heap.size with h0 | h0
      · exact h0
      · rw [Array.getElem?_eq_none h0] at h; cases h
    simp only [storeCells, Sem.run_bind, add_block]
    rw [run_store P w _ v _ (h1 v (by simp)), cell_blk h, List.getElem?_eq_getElem (by omega)]
    simp only [frozen_blk h, Bool.false_eq_true, if_false, Result.andThen_ok]
    rw [setCell_blk v h, ih (i + 1) _ (cs.set (o + i) v) (setBlk_get hb) (fun u hu => h1 u (by simp [hu])) (by simp; omega), setBlk_set]
    congr 2
    simp only [splice, List.length_cons]
    rw [show o + (i + 1) = o + i + 1 by omega]
    have e1 : (cs.set (o + i) v).take (o + i + 1) = cs.take (o + i) ++ [v] := by
      rw [List.take_add_one]
      simp only [List.getElem?_set_self (show o + i < cs.length by omega), List.take_set_of_le (Nat.le_refl _), Option.toList_some]
    have e2 : (cs.set (o + i) v).drop (o + i + 1 + r.length) = cs.drop (o + i + (r.length + 1)) := by
      rw [List.drop_set_of_lt (by omega)]
      congr 1; omega
    rw [e1, e2]; simp

theorem storeVar_ok {P : Program} {w : World} {b o t n : Nat} {ty : TypeId} {cs vs : List Value} {v : Value} (h : w.heap[b]? = some (.cells cs.toArray ty (0, 0))) (hn : sizeT P t = some n) (hv : v.cells = vs.toArray) (hl : vs.length = n)
    (h1 : ∀ v ∈ vs, v.oneCell' = true) (hle : o + n ≤ cs.length) : (storeVar t ⟨b, o, none⟩ v).run P w = .ok () (setBlk w b (splice cs o vs) ty) := by
  unfold storeVar
  simp only [Sem.run_bind, sizeT_run hn, Result.andThen_ok, hv, List.size_toArray, hl, ne_eq, not_true_eq_false, if_false]
  have := storeCells_ok (P := P) (o := o) vs 0 w cs h h1 (by omega)
  simpa using this

/-! ### Specifications of calls -/
def HInv (C : Ctx T) (args : List (SV T)) (H : List (Ent T)) (w : World) : Prop := HOK C H w ∧ SV.validL (Owns H) w args

/-- A contract holds: whenever its conditions are met, the call ends as its continuations say, and touches nothing but what it was handed and what is new. -/
structure SpecOK (C : Ctx T) (f : Nat) (pt : PT T) : Prop where
  enters : ∀ args w, (callFunc f args).run C.P w = .ok (.enter f args) w
  calls : ∀ args H K Kp w, (pt args H K Kp).den → HInv C args H w → Calls C.P f (SV.toVL args).toArray w fun e w' =>
    (∃ r H', e = .returned r.toV ∧ (K r H').den ∧ HOK C H' w' ∧ r.valid (Owns H') w' ∧ Stp (Owns H) (Owns H') w w') ∨
    (∃ x H', e = .panicked [{ v := x.toV, recovered := false }] ∧ (Kp x H').den ∧ HOK C H' w' ∧ x.valid (Owns H') w' ∧ Stp (Owns H) (Owns H') w w')

/-- Where one operation leads. -/
structure Leads (C : Ctx T) (S S' : St T) (o : Oper) (a a' : Act) (w w' : World) : Prop where
  fr : FrOK S' a' (Owns S'.H) w'
  H : HOK C S'.H w'
  stp : Stp (Owns S.H) (Owns S'.H) w w'
  defers : a'.defers = a.defers
  same : ∀ i, o.dst ≠ some i → a'.tmps[i]? = a.tmps[i]?
  len : S'.fr.length = S.fr.length

theorem put_defers (a : Act) (d : Option Tmp) (v : Value) : (a.put d v).defers = a.defers := by cases d <;> rfl
theorem put_same (a : Act) (d : Option Tmp) (v : Value) (i : Nat) (h : d ≠ some i) : (a.put d v).tmps[i]? = a.tmps[i]? := by
  cases d with
  | none => rfl
  | some d => simp only [Act.put]; rw [Array.getElem?_setIfInBounds_ne (by intro h'; subst h'; exact h rfl)]

/-- An operation that gives a value, in a new world. -/
theorem leads_put {C : Ctx T} {S S1 : St T} {o : Oper} {a : Act} {w w' : World} {x : SV T} (hS : FrOK S a (Owns S.H) w) (hfr : S1.fr = S.fr) (hH : HOK C S1.H w') (hs : Stp (Owns S.H) (Owns S1.H) w w') (hx : x.valid (Owns S1.H) w') :
    Leads C S (S1.set o.dst x) o a (a.put o.dst x.toV) w w' := by
  have h1 : FrOK S1 a (Owns S1.H) w' := ⟨by rw [hfr]; exact hS.size, fun i y hy => (hS.step hs).get i y (by unfold St.get at hy ⊢; rw [← hfr]; exact hy)⟩
  have hSH : (S1.set o.dst x).H = S1.H := by cases o.dst <;> rfl
  exact ⟨by rw [hSH]; exact frOK_set h1 o.dst hx, by rw [hSH]; exact hH, by rw [hSH]; exact hs, put_defers _ _ _, fun i hi => put_same _ _ _ i hi, by rw [← hfr]; cases o.dst <;> simp [St.set, Fr.set]⟩

theorem push_get {S : St T} (e : Ent T) : (S.push e).H = S.H ++ [e] := rfl

theorem alloc_step {C : Ctx T} {S : St T} {w : World} (hH : HOK C S.H w) (ty : TypeId) (segs : List (Seg T)) (hv : Seg.validL (Owns S.H) w segs) :
    HOK C (S.push (.B w.heap.size ty segs)).H (w.alloc (.cells (Seg.cellsL segs).toArray ty)) ∧ Stp (Owns S.H) (Owns (S.push (.B w.heap.size ty segs)).H) w (w.alloc (.cells (Seg.cellsL segs).toArray ty)) := by
  refine hH.push _ rfl rfl rfl (by simp) (fun k hk => ?_) (fun k hk => ?_) (fun I s => ⟨?_, Seg.validL_step s _ hv⟩)
  · show (w.heap.push _)[k]? = _
    rw [Array.getElem?_push, if_neg (by omega)]
  · simp only [Ent.has] at hk; subst hk; simp
  · show (w.heap.push _)[w.heap.size]? = _
    simp

/-- A whole entry B is written anew. -/
theorem block_step {C : Ctx T} {S : St T} {w : World} (hH : HOK C S.H w) {h b : Nat} {ty : TypeId} {segs segs' : List (Seg T)} (he : S.ent h = .B b ty segs) (hv : Seg.validL (Owns S.H) w segs') :
    HOK C (S.setEnt h (.B b ty segs')).H (setBlk w b (Seg.cellsL segs') ty) ∧ Stp (Owns S.H) (Owns (S.setEnt h (.B b ty segs')).H) w (setBlk w b (Seg.cellsL segs') ty) := by
  have hn := ent_get he (by intro h; cases h)
  have hb : b < w.heap.size := hH.lt b ⟨h, _, hn, rfl⟩
  refine hH.put h _ _ hn rfl rfl rfl (by rw [setBlk_size]; exact Nat.le_refl _) (fun k hk hne => setBlk_other (fun h' => hne (by rw [h']; rfl))) (fun k hk => ?_) (fun I s => ⟨setBlk_get hb, Seg.validL_step s _ hv⟩)
  simp only [Ent.has] at hk
  subst hk
  exact ⟨.inl rfl, by rw [setBlk_size]; exact hb⟩

theorem splice_append (a m q vs : List Value) (h : vs.length = m.length) : splice (a ++ m ++ q) a.length vs = a ++ vs ++ q := by
  unfold splice
  rw [List.append_assoc a, List.take_left, h, ← List.length_append, ← List.append_assoc, List.drop_left]
theorem set_splice (cs : List Value) (o : Nat) (v : Value) (h : o < cs.length) : cs.set o v = splice cs o [v] := by
  unfold splice
  rw [List.set_eq_take_append_cons_drop]
  simp [h]

/-- An element changes: the row's cells. -/
theorem flat_set (e : TypeId) : ∀ (l : List (T.El e)) (i : Nat) (z u : T.El e) (fld : Nat) (vs : List Value), l[i]? = some z → fld + vs.length ≤ szE T e →
    (T.enc e).enc u = ((T.enc e).enc z).take fld ++ vs ++ ((T.enc e).enc z).drop (fld + vs.length) →
    (l.set i u).flatMap (T.enc e).enc = splice (l.flatMap (T.enc e).enc) (i * szE T e + fld) vs := by
  intro l
  induction l with
  | nil => intro i z u fld vs h; simp at h
  | cons x r ih =>
    intro i z u fld vs h hle hu
    have hx : ((T.enc e).enc x).length = szE T e := (T.enc e).len x
    cases i with
    | zero =>
      simp only [List.getElem?_cons_zero, Option.some.injEq] at h; subst h
      simp only [List.set_cons_zero, List.flatMap_cons, Nat.zero_mul, Nat.zero_add, splice]
      rw [hu, List.take_append_of_le_length (by omega), List.drop_append_of_le_length (by omega)]
      simp
    | succ i =>
      simp only [List.getElem?_cons_succ] at h
      simp only [List.set_cons_succ, List.flatMap_cons]
      rw [ih i z u fld vs h hle hu]
      unfold splice
      have e1 : (i + 1) * szE T e + fld = ((T.enc e).enc x).length + (i * szE T e + fld) := by rw [hx, Nat.succ_mul]; omega
      rw [e1, List.take_length_add_append, Nat.add_assoc ((T.enc e).enc x).length, List.drop_length_add_append]
      simp [Nat.add_assoc]
end Go.Vg
