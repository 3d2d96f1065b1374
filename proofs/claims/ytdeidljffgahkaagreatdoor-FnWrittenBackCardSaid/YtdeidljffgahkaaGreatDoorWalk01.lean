/-
 The generator's soundness, part 7: what makes and writes memory.
-/
import Derived.Test.YtdeidljffgahkaaGreatDoorWalk00
import Derived.Maps.AppendAt
import Derived.Laws.MakeOwn
import Derived.Lib.AppendZeros
import Derived.Laws.BytesString
import Derived.Laws.BytesArg
import Derived.ScopeJumps
import Derived.Deep.LoopGhost
import Derived.LoopN
import Derived.Conc.MuLone
set_option linter.unusedVariables false
namespace Go.Vg
variable {T : Tys}

/-! ### Blocks written -/
def setBlk (w : World) (b : Nat) (cs : List Value) (ty : TypeId) : World := { w with heap := w.heap.setIfInBounds b (.cells cs.toArray ty (0, 0)) }

theorem setCell_blk {w : World} {b o : Nat} {cs : List Value} {ty : TypeId} (v : Value) (h : w.heap[b]? = some (.cells cs.toArray ty (0, 0))) : w.setCell ⟨b, o, none⟩ v = setBlk w b (cs.set o v) ty := by
 unfold World.setCell setBlk
 congr 1
 apply Array.ext_getElem?
 intro i
 rw [Array.getElem?_modify, Array.getElem?_setIfInBounds]
 have hb : b < w.heap.size := by
   rcases Nat.lt_or_ge b w.heap.size with h0 | h0
   . exact h0
   . rw [Array.getElem?_eq_none h0] at h; cases h
 by_cases h0 : b = i
 . subst h0
   have hg : w.heap[b] = .cells cs.toArray ty (0, 0) := by simpa [Array.getElem?_eq_getElem hb] using h
   simp [hb, hg]
 . simp [h0]
theorem setBlk_get {w : World} {b : Nat} {cs : List Value} {ty : TypeId} (hb : b < w.heap.size) : (setBlk w b cs ty).heap[b]? = some (.cells cs.toArray ty (0, 0)) := by
 simp [setBlk, hb]
theorem setBlk_set {w : World} {b : Nat} {cs ds : List Value} {ty : TypeId} : setBlk (setBlk w b cs ty) b ds ty = setBlk w b ds ty := by
 simp [setBlk]
theorem setBlk_other {w : World} {b k : Nat} {cs : List Value} {ty : TypeId} (h : k ≠ b) : (setBlk w b cs ty).heap[k]? = w.heap[k]? := by
 simp only [setBlk]
 rw [Array.getElem?_setIfInBounds_ne (fun h' => h h'.symm)]
theorem setBlk_size {w : World} {b : Nat} {cs : List Value} {ty : TypeId} : (setBlk w b cs ty).heap.size = w.heap.size := by simp [setBlk]
theorem setBlk_same {w : World} {b : Nat} {cs : List Value} {ty : TypeId} (h : w.heap[b]? = some (.cells cs.toArray ty (0, 0))) : setBlk w b cs ty = w := by
 unfold setBlk
 have : w.heap.setIfInBounds b (.cells cs.toArray ty (0, 0)) = w.heap := by
   apply Array.ext_getElem?
   intro i
   rw [Array.getElem?_setIfInBounds]
   split
   . rename_i h0; subst h0
     split
     . exact h.symm
     . rename_i h1; rw [Array.getElem?_eq_none (by omega)]
   . rfl
 rw [this]

def splice (cs : List Value) (o : Nat) (vs : List Value) : List Value := cs.take o ++ vs ++ cs.drop (o + vs.length)
theorem splice_length {cs vs : List Value} {o : Nat} (h : o + vs.length <= cs.length) : (splice cs o vs).length = cs.length := by simp [splice]; omega

theorem frozen_blk {w : World} {b o : Nat} {cs : List Value} {ty : TypeId} (h : w.heap[b]? = some (.cells cs.toArray ty (0, 0))) : w.frozen? ⟨b, o, none⟩ = false := by simp [World.frozen?, h]

theorem storeCells_ok {P : Program} {b o : Nat} {ty : TypeId} : ∀ (vs : List Value) (i : Nat) (w : World) (cs : List Value), w.heap[b]? = some (.cells cs.toArray ty (0, 0)) -> (∀ v ∈ vs, v.oneCell' = true) ->
   o + i + vs.length <= cs.length -> (storeCells ⟨b, o, none⟩ vs i).run P w = .ok () (setBlk w b (splice cs (o + i) vs) ty) := by
 intro vs
 induction vs with
 | nil =>
   intro i w cs h _ _
   have : splice cs (o + i) [] = cs := by simp [splice]
   rw [this, setBlk_same h]
   rfl
 | cons v r ih =>
   intro i w cs h h1 hl
   simp only [List.length_cons] at hl
   have hb : b < w.heap.size := by
     rcases Nat.lt_or_ge b w.heap.size with h0 | h0
     . exact h0
     . rw [Array.getElem?_eq_none h0] at h; cases h
   simp only [storeCells, Sem.run_bind, add_block]
   rw [run_store P w _ v _ (h1 v (by simp)), cell_blk h, List.getElem?_eq_getElem (by omega)]
   simp only [frozen_blk h, Bool.false_eq_true, if_false, Result.andThen_ok]
   rw [setCell_blk v h, ih (i + 1) _ (cs.set (o + i) v) (setBlk_get hb) (fun u hu => h1 u (by simp [hu])) (by simp; omega), setBlk_set]
   congr 2
   simp only [splice, List.length_cons]
   rw [show o + (i + 1) = o + i + 1 by omega]
   have e1 : (cs.set (o + i) v).take (o + i + 1) = cs.take (o + i) ++ [v] := by
     rw [List.take_add_one]
     simp only [List.getElem?_set_self (show o + i < cs.length by omega), List.take_set_of_le (Nat.le_refl _), Option.toList_some]
   have e2 : (cs.set (o + i) v).drop (o + i + 1 + r.length) = cs.drop (o + i + (r.length + 1)) := by
     rw [List.drop_set_of_lt (by omega)]
     congr 1; omega
   rw [e1, e2]; simp

theorem storeVar_ok {P : Program} {w : World} {b o t n : Nat} {ty : TypeId} {cs vs : List Value} {v : Value} (h : w.heap[b]? = some (.cells cs.toArray ty (0, 0))) (hn : sizeT P t = some n) (hv : v.cells = vs.toArray) (hl : vs.length = n)
   (h1 : ∀ v ∈ vs, v.oneCell' = true) (hle : o + n <= cs.length) : (storeVar t ⟨b, o, none⟩ v).run P w = .ok () (setBlk w b (splice cs o vs) ty) := by
 unfold storeVar
 simp only [Sem.run_bind, sizeT_run hn, Result.andThen_ok, hv, List.size_toArray, hl, ne_eq, not_true_eq_false, if_false]
 have := storeCells_ok (P := P) (o := o) vs 0 w cs h h1 (by omega)
 simpa using this

/-! ### Specifications of calls -/
def HInv (C : Ctx T) (args : List (SV T)) (H : List (Ent T)) (w : World) : Prop := HOK C H w /\ SV.validL (Owns H) w args

structure SpecOK (C : Ctx T) (f : Nat) (pt : PT T) : Prop where
 enters : ∀ args w, (callFunc f args).run C.P w = .ok (.enter f args) w
 calls : ∀ args H K Kp w, (pt args H K Kp).den -> HInv C args H w -> Calls C.P f (SV.toVL args).toArray w fun e w' =>
   (∃ r H', e = .returned r.toV /\ (K r H').den /\ HOK C H' w' /\ r.valid (Owns H') w' /\ Stp (Owns H) (Owns H') w w') \/
   (∃ x H', e = .panicked [{ v := x.toV, recovered := false }] /\ (Kp x H').den /\ HOK C H' w' /\ x.valid (Owns H') w' /\ Stp (Owns H) (Owns H') w w')

structure Leads (C : Ctx T) (S S' : St T) (o : Oper) (a a' : Act) (w w' : World) : Prop where
 fr : FrOK S' a' (Owns S'.H) w'
 H : HOK C S'.H w'
 stp : Stp (Owns S.H) (Owns S'.H) w w'
 defers : a'.defers = a.defers
 same : ∀ i, o.dst ≠ some i -> a'.tmps[i]? = a.tmps[i]?
 len : S'.fr.length = S.fr.length

theorem put_defers (a : Act) (d : Option Tmp) (v : Value) : (a.put d v).defers = a.defers := by cases d <;> rfl
theorem put_same (a : Act) (d : Option Tmp) (v : Value) (i : Nat) (h : d ≠ some i) : (a.put d v).tmps[i]? = a.tmps[i]? := by
 cases d with
 | none => rfl
 | some d => simp only [Act.put]; rw [Array.getElem?_setIfInBounds_ne (by intro h'; subst h'; exact h rfl)]

theorem leads_put {C : Ctx T} {S S1 : St T} {o : Oper} {a : Act} {w w' : World} {x : SV T} (hS : FrOK S a (Owns S.H) w) (hfr : S1.fr = S.fr) (hH : HOK C S1.H w') (hs : Stp (Owns S.H) (Owns S1.H) w w') (hx : x.valid (Owns S1.H) w') :
   Leads C S (S1.set o.dst x) o a (a.put o.dst x.toV) w w' := by
 have h1 : FrOK S1 a (Owns S1.H) w' := ⟨by rw [hfr]; exact hS.size, fun i y hy => (hS.step hs).get i y (by unfold St.get at hy ⊢; rw [<- hfr]; exact hy)⟩
 have hSH : (S1.set o.dst x).H = S1.H := by cases o.dst <;> rfl
 exact ⟨by rw [hSH]; exact frOK_set h1 o.dst hx, by rw [hSH]; exact hH, by rw [hSH]; exact hs, put_defers _ _ _, fun i hi => put_same _ _ _ i hi, by rw [<- hfr]; cases o.dst <;> simp [St.set, Fr.set]⟩

theorem alloc_step {C : Ctx T} {S : St T} {w : World} (hH : HOK C S.H w) (ty : TypeId) (segs : List (Seg T)) (hv : Seg.validL (Owns S.H) w segs) :
   HOK C (S.push (.B w.heap.size ty segs)).H (w.alloc (.cells (Seg.cellsL segs).toArray ty)) /\ Stp (Owns S.H) (Owns (S.push (.B w.heap.size ty segs)).H) w (w.alloc (.cells (Seg.cellsL segs).toArray ty)) := by
 refine hH.push _ rfl rfl rfl (by simp) (fun k hk => ?_) (fun k hk => ?_) (fun I s => ⟨?_, Seg.validL_step s _ hv⟩)
 . show (w.heap.push _)[k]? = _
   rw [Array.getElem?_push, if_neg (by omega)]
 . simp only [Ent.has] at hk; subst hk; simp
 . show (w.heap.push _)[w.heap.size]? = _
   simp

theorem block_step {C : Ctx T} {S : St T} {w : World} (hH : HOK C S.H w) {h b : Nat} {ty : TypeId} {segs segs' : List (Seg T)} (he : S.ent h = .B b ty segs) (hv : Seg.validL (Owns S.H) w segs') :
   HOK C (S.setEnt h (.B b ty segs')).H (setBlk w b (Seg.cellsL segs') ty) /\ Stp (Owns S.H) (Owns (S.setEnt h (.B b ty segs')).H) w (setBlk w b (Seg.cellsL segs') ty) := by
 have hn := ent_get he (by intro h; cases h)
 have hb : b < w.heap.size := hH.lt b ⟨h, _, hn, rfl⟩
 refine hH.put h _ _ hn rfl rfl rfl (by rw [setBlk_size]; exact Nat.le_refl _) (fun k hk hne => setBlk_other (fun h' => hne (by rw [h']; rfl))) (fun k hk => ?_) (fun I s => ⟨setBlk_get hb, Seg.validL_step s _ hv⟩)
 simp only [Ent.has] at hk
 subst hk
 exact ⟨.inl rfl, by rw [setBlk_size]; exact hb⟩

theorem splice_append (a m q vs : List Value) (h : vs.length = m.length) : splice (a ++ m ++ q) a.length vs = a ++ vs ++ q := by
 unfold splice
 rw [List.append_assoc a, List.take_left, h, <- List.length_append, <- List.append_assoc, List.drop_left]
theorem set_splice (cs : List Value) (o : Nat) (v : Value) (h : o < cs.length) : cs.set o v = splice cs o [v] := by
 unfold splice
 rw [List.set_eq_take_append_cons_drop]
 simp [h]

theorem flat_set (e : TypeId) : ∀ (l : List (T.El e)) (i : Nat) (z u : T.El e) (fld : Nat) (vs : List Value), l[i]? = some z -> fld + vs.length <= szE T e ->
   (T.enc e).enc u = ((T.enc e).enc z).take fld ++ vs ++ ((T.enc e).enc z).drop (fld + vs.length) ->
   (l.set i u).flatMap (T.enc e).enc = splice (l.flatMap (T.enc e).enc) (i * szE T e + fld) vs := by
 intro l
 induction l with
 | nil => intro i z u fld vs h; simp at h
 | cons x r ih =>
   intro i z u fld vs h hle hu
   have hx : ((T.enc e).enc x).length = szE T e := (T.enc e).len x
   cases i with
   | zero =>
     simp only [List.getElem?_cons_zero, Option.some.injEq] at h; subst h
     simp only [List.set_cons_zero, List.flatMap_cons, Nat.zero_mul, Nat.zero_add, splice]
     rw [hu, List.take_append_of_le_length (by omega), List.drop_append_of_le_length (by omega)]
     simp
   | succ i =>
     simp only [List.getElem?_cons_succ] at h
     simp only [List.set_cons_succ, List.flatMap_cons]
     rw [ih i z u fld vs h hle hu]
     unfold splice
     have e1 : (i + 1) * szE T e + fld = ((T.enc e).enc x).length + (i * szE T e + fld) := by rw [hx, Nat.succ_mul]; omega
     rw [e1, List.take_length_add_append, Nat.add_assoc ((T.enc e).enc x).length, List.drop_length_add_append]
     simp [Nat.add_assoc]
end Go.Vg
/-
 The generator's soundness, part 8: stores, sources of elements, append, copy.
-/
set_option linter.unusedVariables false
namespace Go.Vg
variable {T : Tys}

theorem row_put {C : Ctx T} {S : St T} {w : World} (hH : HOK C S.H w) {h b : Nat} {ty : TypeId} {p q : List (Seg T)} {e : TypeId} {n : Nat} {l l' : List (T.El e)} {off : Nat} {vs : List Value} (he : S.ent h = .B b ty (p ++ .r e n l :: q))
   (hl : l'.length = l.length) (hs : l'.flatMap (T.enc e).enc = splice (l.flatMap (T.enc e).enc) off vs) (hle : off + vs.length <= (l.flatMap (T.enc e).enc).length) :
   splice (Seg.cellsL (p ++ .r e n l :: q)) (segsLen p + off) vs = Seg.cellsL (p ++ .r e n l' :: q) /\ Seg.validL (Owns S.H) w (p ++ .r e n l' :: q) /\ segsLen p + off + vs.length <= (Seg.cellsL (p ++ .r e n l :: q)).length := by
 have hok := ent_ok hH h
 rw [he] at hok
 have hv := hok.2
 rw [validL_append] at hv
 have lp := cellsL_length p hv.1
 refine ⟨?_, ?_, ?_⟩
 . simp only [cellsL_append, Seg.cellsL, Seg.cells, hs]
   unfold splice
   rw [<- lp, List.take_length_add_append, List.take_append_of_le_length (by omega), Nat.add_assoc, List.drop_length_add_append, List.drop_append_of_le_length (by omega)]
   simp
 . rw [validL_append]
   exact ⟨hv.1, hl.trans hv.2.1, hv.2.2⟩
 . simp only [cellsL_append, Seg.cellsL, Seg.cells, List.length_append]; omega

theorem own_parts {w : World} {e : TypeId} {x : Value} {l : List (T.El e)} (h : w.ownsRow 0 e (szE T e) x l.length (l.flatMap (T.enc e).enc)) (hl : 0 < l.length) :
   ∃ g cap cur, x = .slice (some ⟨g, 0, none⟩) l.length cap /\ w.heap[g]? = some (.cells (cur : List Value).toArray e (0, 0)) /\ l.length <= cap /\ cap <= maxLen /\ cur.length = cap * szE T e /\ cur.take (l.length * szE T e) = l.flatMap (T.enc e).enc := by
 obtain ⟨h1, h2⟩ := h
 rcases h2 with ⟨_, h2⟩ | ⟨g, cap, cur, hv, _, hh, hn, hm, hs, ht⟩
 . omega
 . exact ⟨g, cap, cur.toList, hv, by simpa using hh, hn, hm, by simpa using hs, ht⟩

theorem take_splice {cs vs : List Value} {o L : Nat} (h : o + vs.length <= L) (hL : L <= cs.length) : (splice cs o vs).take L = splice (cs.take L) o vs := by
 apply List.ext_getElem?
 intro j
 simp only [splice, List.getElem?_take, List.getElem?_append, List.length_append, List.length_take, List.getElem?_drop]
 have e1 : min o cs.length = o := by omega
 have e2 : min o (min L cs.length) = o := by omega
 simp only [e1, e2]
 repeat' split
 all_goals first | rfl | omega | (congr 1; omega) | (rw [List.getElem?_eq_none]; omega) | (symm; rw [List.getElem?_eq_none]; omega)

theorem own_put {C : Ctx T} {S : St T} {w : World} (hH : HOK C S.H w) {h : Nat} {x : Value} {e : TypeId} {l l' : List (T.El e)} {off : Nat} {vs : List Value} (he : S.ent h = .O x e l) (hpos : 0 < l.length)
   (hl : l'.length = l.length) (hs : l'.flatMap (T.enc e).enc = splice (l.flatMap (T.enc e).enc) off vs) (hle : off + vs.length <= (l.flatMap (T.enc e).enc).length) :
   ∃ g cap cur, x = .slice (some ⟨g, 0, none⟩) l.length cap /\ w.heap[g]? = some (.cells (cur : List Value).toArray e (0, 0)) /\ off + vs.length <= cur.length /\
     HOK C (S.setEnt h (.O x e l')).H (setBlk w g (splice cur off vs) e) /\ Stp (Owns S.H) (Owns (S.setEnt h (.O x e l')).H) w (setBlk w g (splice cur off vs) e) := by
 have hok := ent_ok hH h
 rw [he] at hok
 obtain ⟨g, cap, cur, rfl, hh, hn, hm, hs', ht⟩ := own_parts hok hpos
 have hflat := enc_flat_length e l
 have hmul : l.length * szE T e <= cap * szE T e := Nat.mul_le_mul_right _ hn
 refine ⟨g, cap, cur, rfl, hh, by omega, ?_⟩
 have hn' := ent_get he (by intro h; cases h)
 have hb : g < w.heap.size := hH.lt g ⟨h, _, hn', rfl⟩
 refine hH.put h _ _ hn' rfl rfl rfl (by rw [setBlk_size]; exact Nat.le_refl _) (fun k hk hne => setBlk_other (fun h' => hne (by rw [h']; rfl))) (fun k hk => ?_) (fun I s => ?_)
 . simp only [Ent.has, Value.ownBlock, Option.some.injEq] at hk
   subst hk
   exact ⟨.inl rfl, by rw [setBlk_size]; exact hb⟩
 . refine ⟨enc_flat_length e l', .inr ⟨g, cap, (splice cur off vs).toArray, by rw [hl], Nat.zero_le _, setBlk_get hb, by omega, hm, ?_, ?_⟩⟩
   . simp only [List.size_toArray]; rw [splice_length (by omega), hs']
   . simp only [hs, hl, <- ht]
     exact take_splice (by omega) (by omega)

theorem ptrStore_ok {C : Ctx T} {t : TypeId} {S : St T} {x y : SV T} {next : St T -> VCT} {w : World} (hH : HOK C S.H w) (hy : y.valid (Owns S.H) w) (hp : y.isPart = true) (h : (ptrStore C t S x y next).den) :
   ∃ S' w', (next S').den /\ (Instr.storeAt t x.toV y.toV).run C.P w = .ok () w' /\ S'.fr = S.fr /\ HOK C S'.H w' /\ Stp (Owns S.H) (Owns S'.H) w w' := by
 have sure : ∀ (a : Addr) (s : Addr -> Sem Unit), (Instr.sureAddr (.pointer (some a)) >>= s) = s a := fun a s => rfl
 obtain ⟨hc, hvs⟩ := seg_cells_toV hy (isPart_ok hp).1 (isPart_ok hp).2
 have hlen := cellsL_length _ hvs
 have hone := cellsL_one _ hvs
 unfold ptrStore at h
 split at h
 . rename_i hh b o
   split at h
   . rename_i b' ty segs he
     have hok := ent_ok hH hh
     rw [he] at hok
     split at h
     . rename_i n hn
       split at h
       . rename_i hsl
         split at h
         . rename_i segs' hset
           obtain ⟨rfl, h⟩ := h
           have key : splice (Seg.cellsL segs) o (Seg.cellsL y.segs) = Seg.cellsL segs' /\ Seg.validL (Owns S.H) w segs' /\ o + n <= (Seg.cellsL segs).length := by
             split at hset
             . rename_i u hu
               rw [hu] at hvs
               obtain ⟨e1, e2, e3⟩ := setC_ok _ _ _ _ hok.2 hvs.1.1 hvs.1.2 hset
               rw [hu]
               refine ⟨?_, e3, by omega⟩
               rw [e1, set_splice _ _ _ e2]; rfl
             . obtain ⟨p, m, q, rfl, rfl, hp1, hm⟩ := putS_ok _ _ _ _ _ hset
               have hv := hok.2
               rw [validL_append, validL_append] at hv
               have lp := cellsL_length p hv.1.1
               have lm := cellsL_length m hv.1.2
               refine ⟨?_, ?_, ?_⟩
               . simp only [cellsL_append]
                 rw [<- hp1, <- lp]
                 exact splice_append _ _ _ _ (by omega)
               . rw [validL_append, validL_append]; exact ⟨⟨hv.1.1, hvs⟩, hv.2⟩
               . simp only [cellsL_append, List.length_append]; omega
           obtain ⟨k1, k2, k3⟩ := key
           refine ⟨_, _, h, ?_, rfl, block_step hH he k2⟩
           simp only [SV.toV, Instr.storeAt, sure, Off.val]
           rw [storeVar_ok hok.1 hn hc (by omega) hone k3, k1]
         . exact h.elim
       . exact h.elim
     . exact h.elim
   . exact h.elim
 . rename_i hh b base i sz fld
   split at h
   . rename_i b' ty segs he
     have hok := ent_ok hH hh
     rw [he] at hok
     split at h
     . rename_i e n l hr
       split at h
       . rename_i hsz
         split at h
         . rename_i m hm
           have fin : ∀ (z u : T.El e) (segs' : List (Seg T)), l[i]? = some z -> fld + m <= szE T e -> (Seg.cellsL y.segs).length = m -> (T.enc e).enc u = ((T.enc e).enc z).take fld ++ Seg.cellsL y.segs ++ ((T.enc e).enc z).drop (fld + m) ->
               setR e n (l.set i u) segs base = some segs' -> b = b' -> (next (S.setEnt hh (.B b' ty segs'))).den ->
               ∃ S' w', (next S').den /\ (Instr.storeAt t (SV.toV (T := T) (.p hh b (.el base i sz fld))) y.toV).run C.P w = .ok () w' /\ S'.fr = S.fr /\ HOK C S'.H w' /\ Stp (Owns S.H) (Owns S'.H) w w' := by
             intro z u segs' hz hfm hcl hu hsr hbb hnext
             subst hbb
             obtain ⟨p, q, rfl, rfl, hpb, _⟩ := setR_ok _ _ _ _ _ _ _ _ _ hok.2 hr hsr
             have hfs := flat_set e l i z u fld (Seg.cellsL y.segs) hz (by omega) (by rw [hcl]; exact hu)
             have hil : i < l.length := by
               rcases Nat.lt_or_ge i l.length with h0 | h0
               . exact h0
               . rw [List.getElem?_eq_none h0] at hz; cases hz
             have hfl := enc_flat_length e l
             have hmul : (i + 1) * szE T e <= l.length * szE T e := Nat.mul_le_mul_right _ hil
             rw [Nat.succ_mul] at hmul
             obtain ⟨k1, k2, k3⟩ := row_put hH he (l' := l.set i u) (by simp) hfs (by omega)
             refine ⟨_, _, hnext, ?_, rfl, block_step hH he k2⟩
             simp only [SV.toV, Instr.storeAt, sure, Off.val, hsz]
             have hadr : base + i * szE T e + fld = segsLen p + (i * szE T e + fld) := by rw [hpb]; omega
             rw [hadr, storeVar_ok hok.1 hm hc hcl hone (by omega), k1]
           split at h
           . rename_i hfm
             split at h
             . rename_i u hu
               split at h
               . rename_i segs' hsr
                 obtain ⟨⟨hbb, hil⟩, h⟩ := h
                 have henc := (T.enc e).dec_ok _ _ hu
                 have hul : ((T.enc e).enc u).length = szE T e := (T.enc e).len u
                 have hcl : (Seg.cellsL y.segs).length = m := by rw [<- henc, hul, hfm.2, hsz]
                 refine fin l[i] u segs' (List.getElem?_eq_getElem hil) (by rw [hfm.1, hfm.2, hsz]; omega) hcl ?_ hsr hbb h
                 have hzl : ((T.enc e).enc l[i]).length = szE T e := (T.enc e).len _
                 rw [henc, hfm.1, List.take_zero, List.drop_of_length_le (by rw [hzl, hfm.2, hsz]; omega)]; simp
               . exact h.elim
             . exact h.elim
           . obtain ⟨hbb, h⟩ := h
             obtain ⟨li, hz, hil, h⟩ := atK_den h
             split at h
             . rename_i u hu
               split at h
               . rename_i segs' hsr
                 split at h
                 . rename_i hc2
                   exact fin li u segs' hz (by omega) (by omega) ((T.enc e).dec_ok _ _ hu) hsr hbb h
                 . exact h.elim
               . exact h.elim
             . exact h.elim
         . exact h.elim
       . exact h.elim
     . exact h.elim
   . exact h.elim
 . rename_i hh e v i fld
   split at h
   . rename_i v' e' l he
     have hok := ent_ok hH hh
     rw [he] at hok
     split at h
     . rename_i hee
       subst hee
       split at h
       . rename_i m hm
         have fin : ∀ (z u : T.El e), l[i]? = some z -> fld + m <= szE T e -> (Seg.cellsL y.segs).length = m -> (T.enc e).enc u = ((T.enc e).enc z).take fld ++ Seg.cellsL y.segs ++ ((T.enc e).enc z).drop (fld + m) ->
             v = v' -> (next (S.setEnt hh (.O v' e (l.set i u)))).den ->
             ∃ S' w', (next S').den /\ (Instr.storeAt t (SV.toV (T := T) (.q hh e v i fld)) y.toV).run C.P w = .ok () w' /\ S'.fr = S.fr /\ HOK C S'.H w' /\ Stp (Owns S.H) (Owns S'.H) w w' := by
           intro z u hz hfm hcl hu hvv hnext
           subst hvv
           have hfs := flat_set e l i z u fld (Seg.cellsL y.segs) hz (by omega) (by rw [hcl]; exact hu)
           have hil : i < l.length := by
             rcases Nat.lt_or_ge i l.length with h0 | h0
             . exact h0
             . rw [List.getElem?_eq_none h0] at hz; cases hz
           have hfl := enc_flat_length e l
           have hmul : (i + 1) * szE T e <= l.length * szE T e := Nat.mul_le_mul_right _ hil
           rw [Nat.succ_mul] at hmul
           obtain ⟨g, cap, cur, rfl, hg, hle, hst⟩ := own_put hH he (by omega) (l' := l.set i u) (by simp) hfs (by omega)
           refine ⟨_, _, hnext, ?_, rfl, hst⟩
           simp only [SV.toV, addrOf, Instr.storeAt, sure]
           rw [add_block, Nat.zero_add]
           exact storeVar_ok hg hm hc hcl hone (by rw [<- hcl]; exact hle)
         split at h
         . rename_i hfm
           split at h
           . rename_i u hu
             obtain ⟨⟨hvv, hil⟩, h⟩ := h
             have henc := (T.enc e).dec_ok _ _ hu
             have hul : ((T.enc e).enc u).length = szE T e := (T.enc e).len u
             have hcl : (Seg.cellsL y.segs).length = m := by rw [<- henc, hul, hfm.2]
             refine fin l[i] u (List.getElem?_eq_getElem hil) (by rw [hfm.1, hfm.2]; omega) hcl ?_ hvv h
             have hzl : ((T.enc e).enc l[i]).length = szE T e := (T.enc e).len _
             rw [henc, hfm.1, List.take_zero, List.drop_of_length_le (by rw [hzl, hfm.2]; omega)]; simp
           . exact h.elim
         . obtain ⟨hvv, h⟩ := h
           obtain ⟨li, hz, hil, h⟩ := atK_den h
           split at h
           . rename_i u hu
             split at h
             . rename_i hc2
               exact fin li u hz (by omega) (by omega) ((T.enc e).dec_ok _ _ hu) hvv h
             . exact h.elim
           . exact h.elim
       . exact h.elim
     . exact h.elim
   . exact h.elim
 . exact h.elim
end Go.Vg
/-
 The generator's soundness, part 9: append, copy, make.
-/
set_option linter.unusedVariables false
namespace Go.Vg
variable {T : Tys}

def Src (w : World) (e : TypeId) (v : Value) (l : List (T.El e)) : Prop :=
 ∃ A c, v = .slice A l.length c /\ (A = none -> l = []) /\ (0 < l.length -> ∃ ad, A = some ad /\ ∀ j u, (l.flatMap (T.enc e).enc)[j]? = some u -> w.cell? (ad.add j) = some u)

theorem decL_ok (e : TypeId) : ∀ (n : Nat) (l : List Value) (xs : List (T.El e)), decL e n l = some xs -> xs.length = n /\ xs.flatMap (T.enc e).enc = l.take (n * szE T e)
 | 0, l, xs, h => by simp only [decL, Option.some.injEq] at h; subst h; simp
 | n + 1, l, xs, h => by
   simp only [decL] at h
   split at h
   . rename_i x r hx hr
     simp only [Option.some.injEq] at h; subst h
     obtain ⟨h1, h2⟩ := decL_ok e n _ r hr
     refine ⟨by simp [h1], ?_⟩
     have := (T.enc e).dec_ok _ _ hx
     simp only [List.flatMap_cons, this, h2, Nat.succ_mul, Nat.add_comm (n * szE T e)]
     rw [List.take_add]
   . cases h

theorem own_src {w : World} {e : TypeId} {x : Value} {l : List (T.El e)} (h : w.ownsRow 0 e (szE T e) x l.length (l.flatMap (T.enc e).enc)) : Src w e x l := by
 rcases Nat.eq_zero_or_pos l.length with h0 | h0
 . have hl : l = [] := List.eq_nil_of_length_eq_zero h0
   subst hl
   rcases h.2 with ⟨rfl, _⟩ | ⟨g, cap, cur, rfl, _⟩
   . exact ⟨none, 0, rfl, fun _ => rfl, fun h => by simp at h⟩
   . exact ⟨_, _, rfl, fun _ => rfl, fun h => by simp at h⟩
 . obtain ⟨g, cap, rfl, _, _, hc⟩ := own_cells h h0
   exact ⟨_, _, rfl, (fun h => by cases h), fun _ => ⟨_, rfl, hc⟩⟩

theorem src_cut {w : World} {e : TypeId} {x : Value} {l : List (T.El e)} {lo hi n cap : Nat} {A : Option Addr} (hx : x = .slice A n cap) (hn : l.length <= cap) (h : 0 < l.length -> ∃ ad, A = some ad /\ ∀ j u, (l.flatMap (T.enc e).enc)[j]? = some u -> w.cell? (ad.add j) = some u)
   (hlo : lo <= hi) (hhi : hi <= l.length) (hA : A = none -> l = []) : Src w e (sliceVal x lo hi (szE T e)) ((l.take hi).drop lo) := by
 subst hx
 have hlen : ((l.take hi).drop lo).length = hi - lo := by simp; omega
 refine ⟨if cap = lo then A else A.map (·.add (lo * szE T e)), cap - lo, by simp only [sliceVal]; rw [hlen], fun h0 => ?_, fun h0 => ?_⟩
 . have : A = none := by
     split at h0
     . exact h0
     . cases A <;> simp_all
   rw [hA this]; simp
 . rw [hlen] at h0
   obtain ⟨ad, rfl, hc⟩ := h (by omega)
   rw [if_neg (by omega)]
   refine ⟨_, rfl, fun j u hu => ?_⟩
   rw [take_drop_flat, List.getElem?_drop] at hu
   rw [addr_add_add]
   exact hc _ _ (flat_prefix e _ _ _ hu)

theorem ro_src {I : Nat -> Prop} {w : World} {e : TypeId} {v : Value} {l : List (T.El e)} (h : roOK I w e v l) : Src w e v l := by
 obtain ⟨A, cap, rfl, hc, hm, hro⟩ := h
 by_cases hA : A = none
 . subst hA
   have hl : l = [] := by
     rcases Nat.eq_zero_or_pos l.length with h0 | h0
     . exact List.eq_nil_of_length_eq_zero h0
     . obtain ⟨ad, h1, _⟩ := hro h0; cases h1
   subst hl
   exact ⟨none, cap, rfl, fun _ => rfl, fun h => by simp at h⟩
 . exact ⟨A, cap, rfl, fun h => absurd h hA, fun h => by obtain ⟨ad, h1, _, _, h2⟩ := hro h; exact ⟨ad, h1, h2⟩⟩
theorem srcK_ok {C : Ctx T} {S : St T} {e : TypeId} {x : SV T} {k : List (T.El e) -> VCT} {w : World} (hH : HOK C S.H w) (hx : x.valid (Owns S.H) w) (h : (srcK S e x k).den) :
   ∃ l, (k l).den /\ Src w e x.toV l := by
 unfold srcK at h
 split at h
 . exact ⟨[], h, none, _, rfl, fun _ => rfl, fun h => by simp at h⟩
 . split at h
   . rename_i e' v l he
     subst he
     obtain ⟨A, cap, rfl, hc, hm, hro⟩ := hx
     by_cases hA : A = none
     . subst hA
       have hl : l = [] := by
         rcases Nat.eq_zero_or_pos l.length with h0 | h0
         . exact List.eq_nil_of_length_eq_zero h0
         . obtain ⟨ad, h1, _⟩ := hro h0; cases h1
       subst hl
       exact ⟨[], h, none, cap, rfl, fun _ => rfl, fun h => by simp at h⟩
     . exact ⟨l, h, A, cap, rfl, fun h => absurd h hA, fun h => by obtain ⟨ad, h1, _, _, h2⟩ := hro h; exact ⟨ad, h1, h2⟩⟩
   . exact h.elim
 . rename_i hh e' v n
   split at h
   . rename_i v' e2 l he
     have hok := ent_ok hH hh
     rw [he] at hok
     split at h
     . rename_i hee
       subst hee
       obtain ⟨⟨rfl, _⟩, h⟩ := h
       exact ⟨l, h, own_src hok⟩
     . exact h.elim
   . exact h.elim
 . rename_i v m
   split at h
   . rename_i rel hrel
     obtain ⟨l, hl, h⟩ := h
     have hro := isRo_ok hH hrel hl
     obtain ⟨A', cap', hv'⟩ := hx
     have hm : m = l.length := by obtain ⟨A, cap, hv, _⟩ := hro; rw [hv'] at hv; cases hv; rfl
     exact ⟨l, h hm, ro_src hro⟩
   . exact h.elim
 . rename_i hh e' v lo hi v0
   split at h
   . rename_i v' e2 l he
     have hok := ent_ok hH hh
     rw [he] at hok
     split at h
     . rename_i hee
       subst hee
       split at h
       case isFalse => exact h.elim
       rename_i hee2
       subst hee2
       obtain ⟨⟨rfl, hlo, hhi⟩, h⟩ := h
       refine ⟨_, h, ?_⟩
       obtain ⟨A9, n9, cap9, hA9, hv9⟩ := hx
       rcases hv9 with rfl | ⟨h7, h8, _, A8, rfl⟩
       case inr => exact ⟨A8, 0, by subst h7; simp [SV.toV], fun _ => by subst h7; simp, fun h => by subst h7; simp at h⟩
       rcases Nat.eq_zero_or_pos l.length with h0 | h0
       . have hl : l = [] := List.eq_nil_of_length_eq_zero h0
         subst hl
         rcases hok.2 with ⟨rfl, _⟩ | ⟨g, cap, cur, rfl, _, _, hnc, _⟩
         . exact src_cut (l := []) (n := 0) (cap := 0) rfl (by simp) (fun h => by simp at h) hlo hhi (fun _ => rfl)
         . exact src_cut (l := []) rfl hnc (fun h => by simp at h) hlo hhi (fun _ => rfl)
       . obtain ⟨g, cap, rfl, hnc, _, hc⟩ := own_cells hok h0
         exact src_cut (l := l) rfl hnc (fun _ => ⟨_, rfl, hc⟩) hlo hhi (fun h => by cases h)
     . exact h.elim
   . exact h.elim
 . rename_i hh b e' base lo len cap
   split at h
   . rename_i b' ty segs he
     have hok := ent_ok hH hh
     rw [he] at hok
     split at h
     . rename_i e2 n l hr
       split at h
       . rename_i hee
         subst hee
         split at h
         case isFalse => exact h.elim
         rename_i hee2
         subst hee2
         obtain ⟨⟨rfl, hle⟩, h⟩ := h
         refine ⟨_, h, ?_⟩
         obtain ⟨p, q, rfl, hp⟩ := findR_ok _ _ _ _ _ hok.2 hr
         have hrow := row_in_block hok.2 hok.1
         have hlen : ((l.take (lo + len)).drop lo).length = len := by simp; omega
         refine ⟨_, cap, by simp only [SV.toV]; rw [hlen], (fun h => by cases h), fun _ => ⟨_, rfl, fun j u hu => ?_⟩⟩
         rw [take_drop_flat, List.getElem?_drop] at hu
         have := hrow _ _ (flat_prefix _ _ _ _ hu)
         rw [hp, add_block] at this
         rw [add_block, Nat.add_assoc]
         exact this
       . exact h.elim
     . split at h
       . rename_i hee
         subst hee
         split at h
         . rename_i xs hxs
           split at h
           . rename_i l hl
             obtain ⟨rfl, h⟩ := h
             obtain ⟨p, q, rfl, hp, hm⟩ := subS_ok _ _ _ _ hxs
             obtain ⟨h1, h2⟩ := decL_ok _ _ _ _ hl
             have hv := hok.2
             rw [validL_append, validL_append] at hv
             have lp := cellsL_length p hv.1.1
             have lx := cellsL_length xs hv.1.2
             refine ⟨l, h, _, cap, by simp only [SV.toV]; rw [h1], (fun h => by cases h), fun _ => ⟨_, rfl, fun j u hu => ?_⟩⟩
             rw [h2, List.take_of_length_le (by omega)] at hu
             rw [add_block, cell_blk hok.1]
             simp only [cellsL_append]
             have hj : j < (Seg.cellsL xs).length := by
               rcases Nat.lt_or_ge j (Seg.cellsL xs).length with h0 | h0
               . exact h0
               . rw [List.getElem?_eq_none h0] at hu; cases hu
             have hpp : base + lo * (T.enc e').sz = (Seg.cellsL p).length := by rw [lp, hp]; rfl
             rw [List.append_assoc, hpp, List.getElem?_append_right (by omega), Nat.add_sub_cancel_left, List.getElem?_append_left hj]
             exact hu
           . exact h.elim
         . exact h.elim
       . exact h.elim
   . exact h.elim
 . exact h.elim

theorem src_cases {w : World} {e : TypeId} {v : Value} {l : List (T.El e)} (h : Src w e v l) : (∃ c, v = .slice none 0 c /\ l = []) \/ ∃ ad c, v = .slice (some ad) l.length c /\ ∀ j u, (l.flatMap (T.enc e).enc)[j]? = some u -> w.cell? (ad.add j) = some u := by
 obtain ⟨A, c, rfl, h1, h2⟩ := h
 cases A with
 | none => rw [h1 rfl]; exact .inl ⟨c, rfl, rfl⟩
 | some ad =>
   refine .inr ⟨ad, c, rfl, fun j u hu => ?_⟩
   rcases Nat.eq_zero_or_pos l.length with h0 | h0
   . rw [List.eq_nil_of_length_eq_zero h0] at hu; simp at hu
   . obtain ⟨ad', hA, h3⟩ := h2 h0
     cases hA
     exact h3 j u hu

theorem run_append_nil {P : Program} {w : World} {t ty e : TypeId} {i : TypeInfo} (ht : P.underlying t = some (.slice e)) (hi : P.info? e = some i) (v : Value) (n : Nat) (xs : List Value) (size : Nat)
   (hown : w.ownsRow 0 e size v n xs) (c : Nat) : (Builtin.append_ #[t, t] ty #[v, .slice none 0 c]).run P w = .ok v w := by
 rcases hown.2 with ⟨rfl, rfl⟩ | ⟨g, cap, cur, rfl, _, _, hnc, _⟩
 . simp [Builtin.append_, run_underlying ht, sizeOf, typeInfo, hi, Builtin.lenOf, Builtin.firstCells]
 . simp [Builtin.append_, run_underlying ht, sizeOf, typeInfo, hi, Builtin.lenOf, Builtin.firstCells, hnc, storeCells]

theorem append_run {P : Program} {w : World} {t ty e : TypeId} {z : Value} {by_ : Nat} (ht : P.underlying t = some (.slice e)) (hz : (P.info? e).bind (·.zero) = some z) (hb : bytesT P e = some by_) (hs : sizeT P e = some (szE T e))
   (h0 : szE T e ≠ 0) (hzs : z.cells.size = szE T e) {v x : Value} {l news : List (T.El e)} (hown : w.ownsRow 0 e (szE T e) v l.length (l.flatMap (T.enc e).enc)) (hx : Src w e x news) (hroom : room (l.length + news.length) by_) :
   ∃ v' w', (Builtin.append_ #[t, t] ty #[v, x]).run P w = .ok v' w' /\ w'.ownsRow 0 e (szE T e) v' (l ++ news).length ((l ++ news).flatMap (T.enc e).enc) /\ w.grownBy w' v.ownBlock /\ (v'.ownBlock = v.ownBlock \/ v'.ownBlock = some w.heap.size) := by
 cases hi : P.info? e with
 | none => rw [hi] at hz; cases hz
 | some i =>
   rw [hi] at hz
   simp only [Option.bind_some] at hz
   have hby : i.bytes = by_ := by unfold bytesT at hb; rw [hi] at hb; simpa using hb
   have hsz : i.size = szE T e := by unfold sizeT at hs; rw [hi] at hs; simpa using hs
   rcases src_cases hx with ⟨c, rfl, rfl⟩ | ⟨ad, c, rfl, hc⟩
   . refine ⟨v, w, run_append_nil ht hi v _ _ _ hown c, by simpa using hown, ⟨rfl, rfl, rfl, Nat.le_refl _, fun _ _ _ => rfl⟩, .inl rfl⟩
   . obtain ⟨v', w', h1, h2, h3, _, h5⟩ := run_append_own_at (P := P) w 0 t ty e i z (szE T e) by_ ht hi hz hsz hby hzs (by omega) v l.length _ hown ad news.length c (news.flatMap (T.enc e).enc) (enc_flat_length e news) hc
       (fun u hu => by
         simp only [List.mem_flatMap] at hu
         obtain ⟨y, _, hy⟩ := hu
         exact (T.enc e).one y u hy) (by have := hroom.1; simp only [maxLen]; omega) hroom.2 (Nat.zero_le _)
     refine ⟨v', w', h1, ?_, h3, h5⟩
     rw [List.length_append, List.flatMap_append]
     exact h2

theorem own_slice {w : World} {e : TypeId} {x : Value} {n sz : Nat} {xs : List Value} (h : w.ownsRow 0 e sz x n xs) : ∃ A cap, x = .slice A n cap := by
 rcases h.2 with ⟨rfl, rfl⟩ | ⟨g, cap, cur, rfl, _⟩
 . exact ⟨_, _, rfl⟩
 . exact ⟨_, _, rfl⟩

theorem own_lt {w : World} {e : TypeId} {x : Value} {n sz : Nat} {xs : List Value} (h : w.ownsRow 0 e sz x n xs) {k : Nat} (hk : x.ownBlock = some k) : k < w.heap.size := by
 rcases h.2 with ⟨rfl, rfl⟩ | ⟨g, cap, cur, rfl, _, hh, _⟩
 . cases hk
 . simp only [Value.ownBlock, Option.some.injEq] at hk; subst hk
   rcases Nat.lt_or_ge g w.heap.size with h0 | h0
   . exact h0
   . rw [Array.getElem?_eq_none h0] at hh; cases hh

theorem own_prefix {w : World} {e : TypeId} {x : Value} {l : List (T.El e)} {hi : Nat} (h : w.ownsRow 0 e (szE T e) x l.length (l.flatMap (T.enc e).enc)) (hle : hi <= l.length) :
   w.ownsRow 0 e (szE T e) (sliceVal x 0 hi (szE T e)) (l.take hi).length ((l.take hi).flatMap (T.enc e).enc) := by
 have hlen : (l.take hi).length = hi := by simp; omega
 refine ⟨enc_flat_length e _, ?_⟩
 rcases h.2 with ⟨rfl, h0⟩ | ⟨g, cap, cur, rfl, _, hh, hn, hm, hs, ht⟩
 . have : hi = 0 := by omega
   subst this
   exact .inl ⟨rfl, by simp⟩
 . refine .inr ⟨g, cap, cur, ?_, Nat.zero_le _, hh, by omega, hm, hs, ?_⟩
   . simp only [sliceVal, hlen, Nat.sub_zero, Nat.zero_mul]
     congr 1
     split <;> simp [Addr.add]
   . have := congrArg (List.take (hi * szE T e)) ht
     rw [List.take_take] at this
     have hmul : hi * szE T e <= l.length * szE T e := Nat.mul_le_mul_right _ hle
     rw [hlen, <- Nat.min_eq_left hmul, this, flat_take]
where
 flat_take {e : TypeId} {l : List (T.El e)} {n : Nat} : (l.flatMap (T.enc e).enc).take (n * szE T e) = (l.take n).flatMap (T.enc e).enc := by
   induction n generalizing l with
   | zero => simp
   | succ n ih =>
     cases l with
     | nil => simp
     | cons x r =>
       have hx : ((T.enc e).enc x).length = szE T e := (T.enc e).len x
       simp only [List.take_succ_cons, List.flatMap_cons]
       rw [<- ih, Nat.succ_mul, Nat.add_comm, <- hx, List.take_length_add_append]

theorem zeroCells_flat (z : Array Value) (hz : 0 < z.size) (c : Nat) : (Builtin.zeroCells z c).toList = (List.replicate c z.toList).flatten := by
 induction c with
 | zero => simp [Builtin.zeroCells]
 | succ c ih =>
   rw [List.replicate_succ', List.flatten_append, <- ih]
   simp only [Builtin.zeroCells, Array.toList_map, Array.toList_range, Nat.succ_mul, List.range_add, List.map_append, List.map_map]
   congr 1
   simp only [List.flatten_cons, List.flatten_nil, List.append_nil]
   apply List.ext_getElem?
   intro j
   simp only [List.getElem?_map]
   rcases Nat.lt_or_ge j z.size with h0 | h0
   . have : (c * z.size + j) % z.size = j := by rw [Nat.mul_comm, Nat.mul_add_mod, Nat.mod_eq_of_lt h0]
     simp [h0, this]
   . rw [List.getElem?_eq_none (by simpa using h0), List.getElem?_eq_none (by simpa using h0)]; rfl
theorem flat_rep {e : TypeId} (n : Nat) (u : T.El e) : (List.replicate n u).flatMap (T.enc e).enc = (List.replicate n ((T.enc e).enc u)).flatten := by
 induction n with
 | zero => simp
 | succ n ih => simp [List.replicate_succ, ih]
theorem zerosK_ok {C : Ctx T} {o : Oper} {S : St T} {t t' ty : TypeId} {dst src : SV T} {next : St T -> VCT} {a : Act} {w : World} (hS : FrOK S a (Owns S.H) w) (hH : HOK C S.H w)
   (h : (zerosK C o S t t' dst src next).den) : ∃ S' v w', (next S').den /\ (Builtin.append_ #[t, t'] ty #[dst.toV, src.toV]).run C.P w = .ok v w' /\ Leads C S S' o a (a.put o.dst v) w w' := by
 unfold zerosK at h
 split at h
 . rename_i e ik kn n ht ht'
   split at h
   . rename_i z by_ sz hz hb hsz
     split at h
     . rename_i hc
       obtain ⟨hc1, hc2, hc3⟩ := hc
       subst hc1
       split at h
       . rename_i u hu
         obtain ⟨⟨hn0, hroom⟩, h⟩ := factB_den h
         obtain ⟨m, rfl⟩ : ∃ m : Nat, n = m := ⟨n.toNat, by omega⟩
         have hm0 : 0 < m := by omega
         simp only [Int.toNat_natCast] at h hroom
         cases hi : C.P.info? e with
         | none => rw [hi] at hz; cases hz
         | some i =>
           rw [hi] at hz
           simp only [Option.bind_some] at hz
           have hby : i.bytes = by_ := by unfold bytesT at hb; rw [hi] at hb; simpa using hb
           have hsz' : i.size = szE T e := by unfold sizeT at hsz; rw [hi] at hsz; simpa using hsz
           have hr := Lib.run_append_nil_zeros (P := C.P) w t t' ty e i z kn ik ht ht' hi hz m hm0 (by omega) (by have := hroom.1; omega) (by rw [hby]; have := hroom.2; omega)
           have hge := grownCap_ge w m 0 e
           have hcm := grownCap_le_maxLen w m 0 e (by have := hroom.1; simp only [maxLen]; omega)
           generalize hcap : grownCap w m 0 e = cap at *
           have hcells : (Builtin.zeroCells z.cells m ++ Builtin.zeroCells z.cells (cap - m)).toList = (List.replicate (m + (cap - m)) u).flatMap (T.enc e).enc := by
             rw [Array.toList_append, zeroCells_flat _ (by omega), zeroCells_flat _ (by omega), flat_rep, (T.enc e).dec_ok _ _ hu, <- List.replicate_append_replicate, List.flatten_append]
           have hown : (w.drew.alloc (.cells (Builtin.zeroCells z.cells m ++ Builtin.zeroCells z.cells (cap - m)) e)).ownsRow 0 e (szE T e) (.slice (some ⟨w.heap.size, 0, none⟩) cap cap)
               (List.replicate (m + (cap - m)) u).length ((List.replicate (m + (cap - m)) u).flatMap (T.enc e).enc) := by
             refine ⟨enc_flat_length e _, .inr ⟨w.heap.size, cap, _, ?_, Nat.zero_le _, heap_alloc_new w.drew _, ?_, hcm, ?_, ?_⟩⟩
             . simp; omega
             . simp; omega
             . rw [<- Array.length_toList, hcells, enc_flat_length]; simp; rw [Nat.add_sub_cancel' hge]
             . rw [hcells, List.take_of_length_le]; rw [enc_flat_length]; exact Nat.le_refl _
           obtain ⟨hH', hst⟩ := hH.push (.O (.slice (some ⟨w.heap.size, 0, none⟩) cap cap) e (List.replicate (m + (cap - m)) u)) (w' := w.drew.alloc (.cells (Builtin.zeroCells z.cells m ++ Builtin.zeroCells z.cells (cap - m)) e)) rfl rfl rfl (by simp)
             (fun k hk => heap_alloc_old w.drew _ k hk) (fun k hk => by
               simp only [Ent.has, Value.ownBlock, Option.some.injEq] at hk
               subst hk
               exact ⟨Nat.le_refl _, by simp⟩) (fun I s => hown)
           have h := h (.slice (some ⟨w.heap.size, 0, none⟩) cap cap, cap - m) ⟨by simp only [capVal]; omega, by simp only [capVal]; unfold maxLen at hcm; omega⟩
           have hval : sliceVal (.slice (some ⟨w.heap.size, 0, none⟩) cap cap) 0 m (szE T e) = .slice (some ⟨w.heap.size, 0, none⟩) m cap := by
             simp only [sliceVal, Nat.sub_zero, Nat.zero_mul]
             congr 1
             split <;> simp [Addr.add]
           refine ⟨_, .slice (some ⟨w.heap.size, 0, none⟩) m cap, _, h, hr, ?_⟩
           have := leads_put (o := o) (a := a) (x := .ov S.H.length e (.slice (some ⟨w.heap.size, 0, none⟩) cap cap) 0 m (sliceVal (.slice (some ⟨w.heap.size, 0, none⟩) cap cap) 0 m (szE T e))) hS (S1 := S.push (.O (.slice (some ⟨w.heap.size, 0, none⟩) cap cap) e (List.replicate (m + (cap - m)) u))) rfl hH' hst ⟨_, _, _, rfl, .inl rfl⟩
           rw [show (SV.ov (T := T) S.H.length e (.slice (some ⟨w.heap.size, 0, none⟩) cap cap) 0 m (sliceVal (.slice (some ⟨w.heap.size, 0, none⟩) cap cap) 0 m (szE T e))).toV = .slice (some ⟨w.heap.size, 0, none⟩) m cap from hval] at this
           exact this
       . exact h.elim
     . exact h.elim
   . exact h.elim
 . exact h.elim
theorem grown_stp {C : Ctx T} {S : St T} {w w' : World} (hH : HOK C S.H w) {h : Nat} {x x' : Value} {e : TypeId} {l l' : List (T.El e)} (he : S.ent h = .O x e l) {v : Value} (hv : v.ownBlock = x.ownBlock \/ v.ownBlock = none) (hg : w.grownBy w' v.ownBlock)
   (hown : w'.ownsRow 0 e (szE T e) x' l'.length (l'.flatMap (T.enc e).enc)) (hb : x'.ownBlock = v.ownBlock \/ x'.ownBlock = some w.heap.size) :
   HOK C (S.setEnt h (.O x' e l')).H w' /\ Stp (Owns S.H) (Owns (S.setEnt h (.O x' e l')).H) w w' := by
 have hn' := ent_get he (by intro h; cases h)
 refine hH.put h _ _ hn' hg.os hg.tape hg.output hg.size (fun k hk hne => hg.block k hk (fun h' => hne (by
   rcases hv with h1 | h1
   . rw [Ent.has, <- h1, <- h']
   . rw [h1] at h'; cases h'))) (fun k hk => ⟨?_, own_lt hown hk⟩) (fun I s => hown)
 rcases hb with h1 | h1
 . rcases hv with h2 | h2
   . left; rw [Ent.has, <- h2, <- h1]; exact hk
   . rw [Ent.has, h1, h2] at hk; cases hk
 . right
   rw [Ent.has, h1] at hk
   simp only [Option.some.injEq] at hk
   omega

theorem appendK_ok {C : Ctx T} {o : Oper} {S : St T} {t ty : TypeId} {dst src : SV T} {next : St T -> VCT} {a : Act} {w : World} (hS : FrOK S a (Owns S.H) w) (hH : HOK C S.H w) (hd : dst.valid (Owns S.H) w) (hs : src.valid (Owns S.H) w)
   (h : (appendK C o S t dst src next).den) : ∃ S' v w', (next S').den /\ (Builtin.append_ #[t, t] ty #[dst.toV, src.toV]).run C.P w = .ok v w' /\ Leads C S S' o a (a.put o.dst v) w w' := by
 unfold appendK at h
 split at h
 . rename_i e ht
   split at h
   . rename_i z by_ sz hz hb hsz
     split at h
     . rename_i hc
       obtain ⟨hc1, hc2, hc3⟩ := hc
       subst hc1
       split at h
       . obtain ⟨news, h, hsrc⟩ := srcK_ok hH hs h
         obtain ⟨hroom, h⟩ := factB_den h
         have hown0 : w.ownsRow 0 e (szE T e) (.slice none 0 0) ([] : List (T.El e)).length (([] : List (T.El e)).flatMap (T.enc e).enc) := ⟨by simp, .inl ⟨rfl, rfl⟩⟩
         obtain ⟨v', w', h1, h2, h3, h4⟩ := append_run (T := T) (ty := ty) ht hz hb hsz hc2 hc3 hown0 hsrc (by simpa using hroom)
         have h := h v'
         simp only [List.nil_append] at h2
         obtain ⟨hH', hst⟩ := hH.push (.O v' e news) h3.os h3.tape h3.output h3.size (fun k hk => h3.block k hk (by simp [Value.ownBlock])) (fun k hk => by
           refine ⟨?_, own_lt h2 hk⟩
           rcases h4 with h5 | h5
           . rw [Ent.has, h5] at hk; simp [Value.ownBlock] at hk
           . rw [Ent.has, h5] at hk; simp only [Option.some.injEq] at hk; omega) (fun I s => h2)
         exact ⟨_, v', w', h, h1, leads_put (x := .o S.H.length e v' news.length) hS (S1 := S.push (.O v' e news)) rfl hH' hst (own_slice h2)⟩
       . rename_i hh e' x n
         split at h
         . rename_i x' e2 l he
           have hok := ent_ok hH hh
           rw [he] at hok
           split at h
           . rename_i hee
             subst hee
             obtain ⟨⟨rfl, hn⟩, h⟩ := h
             obtain ⟨news, h, hsrc⟩ := srcK_ok hH hs h
             obtain ⟨hroom, h⟩ := factB_den h
             obtain ⟨v', w', h1, h2, h3, h4⟩ := append_run (T := T) (ty := ty) ht hz hb hsz hc2 hc3 hok hsrc hroom
             have h := h v'
             obtain ⟨hH', hst⟩ := grown_stp hH he (.inl rfl) h3 h2 h4
             have h5 := own_slice h2
             rw [List.length_append, <- hn] at h5
             exact ⟨_, v', w', h, h1, leads_put (x := .o hh _ v' (n + news.length)) hS (S1 := S.setEnt hh (.O v' _ (l ++ news))) rfl hH' hst h5⟩
           . exact h.elim
         . exact h.elim
       . rename_i hh e' x hi v0
         split at h
         . rename_i x' e2 l he
           have hok := ent_ok hH hh
           rw [he] at hok
           split at h
           . rename_i hee
             subst hee
             split at h
             case isFalse => exact h.elim
             rename_i hee2
             subst hee2
             obtain ⟨⟨rfl, hn⟩, h⟩ := h
             obtain ⟨A9, n9, cap9, hA9, hv9⟩ := hd
             obtain rfl : v0 = _ := hv9.resolve_right (fun h9 => by have := h9.2.2.1; omega)
             obtain ⟨news, h, hsrc⟩ := srcK_ok hH hs h
             obtain ⟨hroom, h⟩ := factB_den h
             have hlen : (l.take hi).length = hi := by simp; omega
             obtain ⟨v', w', h1, h2, h3, h4⟩ := append_run (T := T) (ty := ty) ht hz hb hsz hc2 hc3 (own_prefix hok hn) hsrc (by rw [hlen]; exact hroom)
             have h := h v'
             have hblk : (sliceVal x 0 hi (szE T e')).ownBlock = x.ownBlock \/ (sliceVal x 0 hi (szE T e')).ownBlock = none := by
               rcases hok.2 with ⟨rfl, _⟩ | ⟨g, cap, cur, rfl, _⟩
               . exact .inl rfl
               . left; simp only [sliceVal]; split <;> simp [Value.ownBlock, Addr.add]
             obtain ⟨hH', hst⟩ := grown_stp hH he hblk h3 h2 h4
             have h5 := own_slice h2
             rw [List.length_append, hlen] at h5
             exact ⟨_, v', w', h, h1, leads_put (x := .o hh _ v' (hi + news.length)) hS (S1 := S.setEnt hh (.O v' _ (l.take hi ++ news))) rfl hH' hst h5⟩
           . exact h.elim
         . exact h.elim
       . exact h.elim
     . exact h.elim
   . exact h.elim
 . exact h.elim
end Go.Vg
/-
 The generator's soundness, part 10: copy, made rows, literals of slices; all operations.
-/
set_option linter.unusedVariables false
namespace Go.Vg
variable {T : Tys}

theorem flat_take {e : TypeId} {l : List (T.El e)} {n : Nat} : (l.flatMap (T.enc e).enc).take (n * szE T e) = (l.take n).flatMap (T.enc e).enc := own_prefix.flat_take

theorem copy_flat {e : TypeId} (l ns : List (T.El e)) (lo : Nat) (h : lo + ns.length <= l.length) :
   (l.take lo ++ ns ++ l.drop (lo + ns.length)).flatMap (T.enc e).enc = splice (l.flatMap (T.enc e).enc) (lo * szE T e) (ns.flatMap (T.enc e).enc) := by
 unfold splice
 rw [List.flatMap_append, List.flatMap_append, <- flat_take, take_drop_flat, enc_flat_length, Nat.add_mul]

theorem setEnt_same {S : St T} {h : Nat} {e : Ent T} (he : S.ent h = e) (hx : e ≠ .X) : (S.setEnt h e).H = S.H := by
 have := ent_get he hx
 show S.H.set h e = S.H
 apply List.ext_getElem?
 intro i
 rw [List.getElem?_set]
 split
 . rename_i h0; subst h0
   split
   . exact this.symm
   . rename_i h1; rw [List.getElem?_eq_none (by omega)] at this; cases this
 . rfl

theorem firstCells_src {P : Program} {w : World} {e : TypeId} {v : Value} {news : List (T.El e)} (h : Src w e v news) (n : Nat) (hn : n <= news.length) :
   (Builtin.lenOf v).run P w = .ok news.length w /\ (Builtin.firstCells (szE T e) n v).run P w = .ok ((news.take n).flatMap (T.enc e).enc).toArray w := by
 rcases src_cases h with ⟨c, rfl, rfl⟩ | ⟨ad, c, rfl, hc⟩
 . exact ⟨rfl, by simp [Builtin.firstCells]⟩
 . refine ⟨rfl, ?_⟩
   have := run_loadCells_list (P := P) w ad ((news.take n).flatMap (T.enc e).enc) (fun j u hu => hc j u (flat_prefix _ _ _ _ hu))
   rw [enc_flat_length] at this
   simp only [List.length_take, Nat.min_eq_left hn] at this
   exact this

theorem copy_run_some {P : Program} {w : World} {t ty e : TypeId} {v : Value} {news : List (T.El e)} {g o dlen cap : Nat} {cs : List Value} {bt : TypeId} (ht : P.underlying t = some (.slice e)) (hs : sizeT P e = some (szE T e)) (h : Src w e v news)
   (hb : w.heap[g]? = some (.cells cs.toArray bt (0, 0))) (hle : o + min news.length dlen * szE T e <= cs.length) :
   (Builtin.copy_ #[t, t] ty #[.slice (some ⟨g, o, none⟩) dlen cap, v]).run P w = .ok (.int .i64 (min news.length dlen : Nat)) (setBlk w g (splice cs o ((news.take (min news.length dlen)).flatMap (T.enc e).enc)) bt) := by
 obtain ⟨hl1, hl2⟩ := firstCells_src (P := P) h (min news.length dlen) (Nat.min_le_left _ _)
 have hst := storeCells_ok (P := P) (b := g) (o := o) ((news.take (min news.length dlen)).flatMap (T.enc e).enc) 0 w cs hb (fun u hu => by
   simp only [List.mem_flatMap] at hu
   obtain ⟨y, _, hy⟩ := hu
   exact (T.enc e).one y u hy) (by rw [enc_flat_length]; simp only [List.length_take]; rw [Nat.min_eq_left (Nat.min_le_left _ _)]; omega)
 unfold Builtin.copy_
 have hm : Nat.min news.length dlen = min news.length dlen := rfl
 simp only [Nat.add_zero] at hst
 simp [run_underlying ht, hl1, sizeT_run hs, hm, hl2, hst, goInt]

theorem copy_run_none {P : Program} {w : World} {t ty e : TypeId} {v : Value} {news : List (T.El e)} {cap : Nat} (ht : P.underlying t = some (.slice e)) (hs : sizeT P e = some (szE T e)) (h : Src w e v news) :
   (Builtin.copy_ #[t, t] ty #[.slice none 0 cap, v]).run P w = .ok (.int .i64 0) w := by
 obtain ⟨hl1, hl2⟩ := firstCells_src (P := P) h 0 (Nat.zero_le _)
 unfold Builtin.copy_
 simp [run_underlying ht, hl1, sizeT_run hs, hl2, goInt]

theorem copy_run_zero {P : Program} {w : World} {t ty e : TypeId} {v : Value} {news : List (T.El e)} {cap : Nat} {A : Option Addr} (ht : P.underlying t = some (.slice e)) (hs : sizeT P e = some (szE T e)) (h : Src w e v news) :
   (Builtin.copy_ #[t, t] ty #[.slice A 0 cap, v]).run P w = .ok (.int .i64 0) w := by
 obtain ⟨hl1, hl2⟩ := firstCells_src (P := P) h 0 (Nat.zero_le _)
 unfold Builtin.copy_
 cases A with
 | none => simp [run_underlying ht, hl1, sizeT_run hs, hl2, goInt]
 | some a => simp [run_underlying ht, hl1, sizeT_run hs, hl2, goInt, storeCells]

theorem copyK_ok {C : Ctx T} {o : Oper} {S : St T} {t ty : TypeId} {dst src : SV T} {next : St T -> VCT} {a : Act} {w : World} (hS : FrOK S a (Owns S.H) w) (hH : HOK C S.H w) (hd : dst.valid (Owns S.H) w) (hs : src.valid (Owns S.H) w)
   (h : (copyK C o S t dst src next).den) : ∃ S' v w', (next S').den /\ (Builtin.copy_ #[t, t] ty #[dst.toV, src.toV]).run C.P w = .ok v w' /\ Leads C S S' o a (a.put o.dst v) w w' := by
 unfold copyK at h
 split at h
 . rename_i e ht
   split at h
   . rename_i hsz
     split at h
     . rename_i hh b e' base lo len cap
       split at h
       . rename_i b' tyb segs he
         have hok := ent_ok hH hh
         rw [he] at hok
         split at h
         . rename_i e2 kk l hr
           split at h
           . rename_i hee
             subst hee
             split at h
             case isFalse => exact h.elim
             rename_i hee2
             subst hee2
             obtain ⟨news, h, hsrc⟩ := srcK_ok hH hs h
             simp only at h
             split at h
             . rename_i segs' hsr
               obtain ⟨⟨rfl, hle⟩, h⟩ := h
               have hns : (news.take (min news.length len)).length = min news.length len := by rw [List.length_take]; omega
               obtain ⟨p, q, rfl, rfl, hp, _⟩ := setR_ok _ _ _ _ _ _ _ _ _ hok.2 hr hsr
               have hcp := copy_flat l (news.take (min news.length len)) lo (by rw [hns]; omega)
               rw [hns] at hcp
               have hfl := enc_flat_length e' l
               have hvl : ((news.take (min news.length len)).flatMap (T.enc e').enc).length = min news.length len * szE T e' := by rw [enc_flat_length, hns]
               have hmul : (lo + min news.length len) * szE T e' <= l.length * szE T e' := Nat.mul_le_mul_right _ (by omega)
               rw [Nat.add_mul] at hmul
               obtain ⟨k1, k2, k3⟩ := row_put hH he (l' := l.take lo ++ news.take (min news.length len) ++ l.drop (lo + min news.length len)) (by simp; omega) hcp (by rw [hvl, hfl]; omega)
               obtain ⟨hH', hst⟩ := block_step hH he k2
               refine ⟨_, _, _, h, ?_, leads_put (x := .v (.int .i64 (min news.length len : Nat))) hS (S1 := S.setEnt hh (.B b tyb _)) rfl hH' hst rfl⟩
               have hrun := copy_run_some (ty := ty) (g := b) (o := base + lo * szE T e') (dlen := len) (cap := cap) ht hsz hsrc hok.1 (by rw [hvl] at k3; omega)
               rw [<- hp, k1] at hrun
               rw [hp] at hrun
               exact hrun
             . exact h.elim
           . exact h.elim
         . exact h.elim
       . exact h.elim
     . rename_i hh e' x k
       split at h
       . rename_i x' e2 l he
         have hok := ent_ok hH hh
         rw [he] at hok
         split at h
         . rename_i hee
           subst hee
           obtain ⟨⟨rfl, hk⟩, h⟩ := h
           obtain ⟨news, h, hsrc⟩ := srcK_ok hH hs h
           have hns : (news.take (min news.length k)).length = min news.length k := by rw [List.length_take]; omega
           have hcp := copy_flat l (news.take (min news.length k)) 0 (by rw [hns, hk]; omega)
           rw [hns, List.take_zero, List.nil_append, Nat.zero_mul, Nat.zero_add] at hcp
           rcases Nat.eq_zero_or_pos l.length with h0 | h0
           . have hl : l = [] := List.eq_nil_of_length_eq_zero h0
             subst hl
             have hk0 : k = 0 := hk
             subst hk0
             have hsame : (S.setEnt hh (.O x e2 (news.take (min news.length 0) ++ ([] : List (T.El e2)).drop (min news.length 0)))).H = S.H := by
               have : (news.take (min news.length 0) ++ ([] : List (T.El e2)).drop (min news.length 0)) = [] := by simp
               rw [this]; exact setEnt_same he (by intro h; cases h)
             rcases hok.2 with ⟨rfl, _⟩ | ⟨g, cap, cur, rfl, _, hg, hn, hm, hs', ht'⟩
             . refine ⟨_, _, w, h, ?_, leads_put (x := .v (.int .i64 (min news.length 0 : Nat))) hS (S1 := S.setEnt hh _) rfl (by rw [hsame]; exact hH) (by rw [hsame]; exact Stp.refl _ _) rfl⟩
               have := copy_run_none (ty := ty) (cap := 0) ht hsz hsrc
               show _ = Result.ok (Value.int .i64 ((min news.length 0 : Nat) : Int)) w
               rw [Nat.min_zero]
               exact this
             . refine ⟨_, _, w, h, ?_, leads_put (x := .v (.int .i64 (min news.length 0 : Nat))) hS (S1 := S.setEnt hh _) rfl (by rw [hsame]; exact hH) (by rw [hsame]; exact Stp.refl _ _) rfl⟩
               have hg' : w.heap[g]? = some (.cells cur.toList.toArray e2 (0, 0)) := by simpa using hg
               have := copy_run_some (ty := ty) (g := g) (o := 0) (dlen := 0) (cap := cap) ht hsz hsrc hg' (by simp)
               have hsp : splice cur.toList 0 ((news.take (min news.length 0)).flatMap (T.enc e2).enc) = cur.toList := by simp [splice]
               rw [hsp, setBlk_same hg'] at this
               exact this
           . have hfl := enc_flat_length e2 l
             have hvl : ((news.take (min news.length k)).flatMap (T.enc e2).enc).length = min news.length k * szE T e2 := by rw [enc_flat_length, hns]
             have hmul : min news.length k * szE T e2 <= l.length * szE T e2 := Nat.mul_le_mul_right _ (by omega)
             obtain ⟨g, cap, cur, rfl, hg, hle, hH', hst⟩ := own_put hH he h0 (l' := news.take (min news.length k) ++ l.drop (min news.length k)) (by simp; omega) hcp (by rw [hvl, hfl]; omega)
             refine ⟨_, _, _, h, ?_, leads_put (x := .v (.int .i64 (min news.length k : Nat))) hS (S1 := S.setEnt hh _) rfl hH' hst rfl⟩
             have := copy_run_some (ty := ty) (g := g) (o := 0) (dlen := k) (cap := cap) ht hsz hsrc hg (by rw [hvl] at hle; exact hle)
             rw [hk] at this ⊢
             exact this
         . exact h.elim
       . exact h.elim
     . rename_i hh e' x lo hi v0
       split at h
       . rename_i x' e2 l he
         have hok := ent_ok hH hh
         rw [he] at hok
         split at h
         . rename_i hee
           subst hee
           split at h
           case isFalse => exact h.elim
           rename_i hee2
           subst hee2
           obtain ⟨⟨rfl, hlo, hhi⟩, h⟩ := h
           obtain ⟨news, h, hsrc⟩ := srcK_ok hH hs h
           simp only at h
           have hns : (news.take (min news.length (hi - lo))).length = min news.length (hi - lo) := by rw [List.length_take]; omega
           rcases Nat.eq_zero_or_pos (hi - lo) with h0 | h0
           . have hl' : l.take lo ++ news.take (min news.length (hi - lo)) ++ l.drop (lo + min news.length (hi - lo)) = l := by rw [h0]; simp
             rw [hl'] at h
             have hsame : (S.setEnt hh (.O x e' l)).H = S.H := setEnt_same he (by intro h; cases h)
             obtain ⟨A, hA⟩ := ovOK.slice hd
             refine ⟨_, _, w, h, ?_, leads_put (x := .v (.int .i64 (min news.length (hi - lo) : Nat))) hS (S1 := S.setEnt hh _) rfl (by rw [hsame]; exact hH) (by rw [hsame]; exact Stp.refl _ _) rfl⟩
             simp only [SV.toV, hA, h0, Nat.min_zero]
             exact copy_run_zero ht hsz hsrc
           . have hcp := copy_flat l (news.take (min news.length (hi - lo))) lo (by rw [hns]; omega)
             rw [hns] at hcp
             have hfl := enc_flat_length e' l
             have hvl : ((news.take (min news.length (hi - lo))).flatMap (T.enc e').enc).length = min news.length (hi - lo) * szE T e' := by rw [enc_flat_length, hns]
             have hmul : (lo + min news.length (hi - lo)) * szE T e' <= l.length * szE T e' := Nat.mul_le_mul_right _ (by omega)
             rw [Nat.add_mul] at hmul
             obtain ⟨g, cap, cur, rfl, hg, hle, hH', hst⟩ := own_put hH he (by omega) (l' := l.take lo ++ news.take (min news.length (hi - lo)) ++ l.drop (lo + min news.length (hi - lo))) (by simp; omega) hcp (by rw [hvl, hfl]; omega)
             have hnc : l.length <= cap := by
               rcases hok.2 with ⟨h8, hz⟩ | ⟨g8, cap8, cur8, h8, _, _, hnc, _⟩
               . cases h8
               . cases h8; exact hnc
             obtain ⟨A9, n9, cap9, hA9, hv9⟩ := hd
             cases hA9
             obtain rfl : v0 = _ := hv9.resolve_right (fun h9 => by omega)
             refine ⟨_, _, _, h, ?_, leads_put (x := .v (.int .i64 (min news.length (hi - lo) : Nat))) hS (S1 := S.setEnt hh _) rfl hH' hst rfl⟩
             have := copy_run_some (ty := ty) (g := g) (o := lo * szE T e') (dlen := hi - lo) (cap := cap - lo) ht hsz hsrc hg (by rw [hvl] at hle; exact hle)
             simp only [SV.toV, sliceVal]
             rw [if_neg (by omega)]
             simp only [Option.map_some]
             rw [add_block, Nat.zero_add]
             exact this
         . exact h.elim
       . exact h.elim
     . obtain ⟨news, h, hsrc⟩ := srcK_ok (e := e) hH hs h
       refine ⟨_, _, w, h, copy_run_none ht hsz hsrc, leads_put (x := .v (.int .i64 0)) hS (S1 := S) rfl hH (Stp.refl _ _) rfl⟩
     . exact h.elim
   . exact h.elim
 . exact h.elim

theorem madeCells_flat (z : Array Value) (hz : 0 < z.size) (c : Nat) : (madeCells z (c * z.size)).toList = (List.replicate c z.toList).flatten := by
 induction c with
 | zero => simp [madeCells]
 | succ c ih =>
   rw [List.replicate_succ', List.flatten_append, <- ih]
   simp only [madeCells, Array.toList_map, Array.toList_range, Nat.succ_mul, List.range_add, List.map_append, List.map_map]
   congr 1
   simp only [List.flatten_cons, List.flatten_nil, List.append_nil]
   apply List.ext_getElem?
   intro j
   simp only [List.getElem?_map]
   rcases Nat.lt_or_ge j z.size with h0 | h0
   . have : (c * z.size + j) % z.size = j := by rw [Nat.mul_comm, Nat.mul_add_mod, Nat.mod_eq_of_lt h0]
     simp [h0, this]
   . rw [List.getElem?_eq_none (by simpa using h0), List.getElem?_eq_none (by simpa using h0)]; rfl

theorem flat_replicate {e : TypeId} (n : Nat) (u : T.El e) : (List.replicate n u).flatMap (T.enc e).enc = (List.replicate n ((T.enc e).enc u)).flatten := by
 induction n with
 | zero => simp
 | succ n ih => simp [List.replicate_succ, ih]
end Go.Vg
/-
 The generator's soundness, part 11: all operations.
-/
set_option linter.unusedVariables false
namespace Go.Vg
variable {T : Tys}

def Goes (C : Ctx T) (o : Oper) (S : St T) (a : Act) (w : World) (next : St T -> VCT) (pan : SV T -> St T -> VCT) : Prop :=
 ∀ (nx : Act -> World -> Prop) (Q : Exit -> Act -> World -> Prop), (∀ S' a' w', (next S').den -> Leads C S S' o a a' w w' -> nx a' w') ->
   (∀ x S' w', (pan x S').den -> x.valid (Owns S'.H) w' -> FrOK S' a (Owns S'.H) w' -> HOK C S'.H w' -> Stp (Owns S.H) (Owns S'.H) w w' -> Q (.panic [{ v := x.toV, recovered := false }]) a w') -> o.wp C.P a w nx Q

theorem goes_run {C : Ctx T} {o : Oper} {S S' : St T} {a : Act} {w w' : World} {next : St T -> VCT} {pan : SV T -> St T -> VCT} {v : Value} (hr : (execOp a.eval o).run C.P w = .ok (.value v) w') (hn : (next S').den) (hl : Leads C S S' o a (a.put o.dst v) w w') :
   Goes C o S a w next pan := by
 intro nx Q h1 h2
 unfold Oper.wp
 rw [hr, Oper.upon_value]
 exact h1 S' _ w' hn hl

theorem still_goes {C : Ctx T} (hz : ZOK C) {o : Oper} {S : St T} {a : Act} {w : World} {next : St T -> VCT} {pan : SV T -> St T -> VCT} (hS : FrOK S a (Owns S.H) w) (hH : HOK C S.H w) (h : (stx C o S fun y => next (S.set o.dst y)).den) : Goes C o S a w next pan := by
 obtain ⟨y, h1, h2, h3⟩ := stx_ok hz hS hH h
 exact goes_run h3 h1 (leads_put hS (S1 := S) rfl hH (Stp.refl _ _) h2)

theorem call_goes {C : Ctx T} {sp : Nat -> Option (PT T)} (hsp : ∀ f pt, sp f = some pt -> SpecOK C f pt) {o : Oper} {S : St T} {a : Act} {w : World} {next : St T -> VCT} {pan : SV T -> St T -> VCT} {f : Nat} {args : List (SV T)} {vals : Array Value}
   (hS : FrOK S a (Owns S.H) w) (hH : HOK C S.H w) (hv : SV.validL (Owns S.H) w args) (hargs : vals = (SV.toVL args).toArray) (hr : (execOp a.eval o).run C.P w = (callFunc f vals).run C.P w) (h : (callK sp o S f args next pan).den) : Goes C o S a w next pan := by
 subst hargs
 unfold callK at h
 split at h
 . rename_i pt hpt
   obtain ⟨he, hc⟩ := hsp f pt hpt
   intro nx Q h1 h2
   unfold Oper.wp
   rw [hr, he, Oper.upon_enter]
   refine (hc args S.H _ _ w h ⟨hH, hv⟩).mono ?_
   rintro e w' (⟨r, H', rfl, hk, hH', hr', hst⟩ | ⟨x, H', rfl, hk, hH', hx, hst⟩)
   . exact h1 _ _ _ hk (leads_put hS (S1 := { S with H := H' }) rfl hH' hst hr')
   . exact h2 x { S with H := H' } w' hk hx (frOK_H (hS.step hst) H') hH' hst
 . exact h.elim

theorem value_call (ρ : Operand -> Value) (o : Oper) (c : Call) (ho : o.op = .call c) (g : Operand) (hc : c.callee = .value g) (f : Nat) (first captured : Array Value) (hg : ρ g = .func (.func f) first captured) (P : Program) (w : World) :
   (execOp ρ o).run P w = (callFunc f (first ++ c.args.map ρ ++ captured)).run P w := by
 unfold execOp
 simp only [ho, resolve, hc, hg, Deferred.ofValue, Sem.run_bind, Sem.run_pure, Result.andThen_ok, invoke]

theorem methodOf_ok {P : Program} {t : TypeId} {name : String} {f : Nat} (h : methodOf P t name = some f) (v : Value) (w : World) (fuel : Nat) : (method (fuel + 1) t v name).run P w = .ok (f, v) w := by
 unfold methodOf at h
 split at h
 . rename_i i hi
   split at h
   . rename_i m hm
     split at h
     . rename_i hpath
       have hp : m.path = #[] := by simpa using hpath
       unfold method
       simp only [typeInfo, Sem.run_bind, run_program, Result.andThen_ok, hi, Sem.run_pure, hm, hp, follow]
       split at h
       . rename_i f' e hf hd
         simp only [Option.some.injEq] at h; subst h
         simp only [hf, Sem.run_bind, receiverAt, run_underlying hd, Result.andThen_ok, Place.get, Sem.run_pure]
       . cases h
       . rename_i f' d hne hf hd
         simp only [Option.some.injEq] at h; subst h
         simp only [hf, Sem.run_bind, receiverAt, run_underlying hd, Result.andThen_ok]
         cases d <;> first | rfl | exact absurd rfl (hne _)
       . cases h
     . cases h
   . cases h
 . cases h

theorem invoke_call (ρ : Operand -> Value) (o : Oper) (c : Call) (ho : o.op = .call c) (r : Operand) (name : String) (hc : c.callee = .invoke r name) (P : Program) (t : TypeId) (v : Value) (f : Nat) (hr : ρ r = .iface t v) (hm : methodOf P t name = some f) (w : World) :
   (execOp ρ o).run P w = (callFunc f (#[v] ++ c.args.map ρ)).run P w := by
 unfold execOp
 simp only [ho, resolve, hc, hr, Sem.run_bind, Sem.run_pure, Result.andThen_ok, invoke, callMethod]
 have h0 : P.types.size + Made.depth = (P.types.size + 99) + 1 := rfl
 have hx : (#[Value.iface t v] ++ c.args.map ρ)[0]? = some (.iface t v) := by rw [Array.getElem?_append_left (by simp)]; rfl
 have hy : (#[Value.iface t v] ++ c.args.map ρ).extract 1 (#[Value.iface t v] ++ c.args.map ρ).size = c.args.map ρ := by
   apply Array.ext'
   simp
   exact List.take_of_length_le (by simp)
 simp only [hx, hy]
 simp only [Sem.run_bind, run_program, Result.andThen_ok]
 rw [h0, methodOf_ok hm]
 simp only [Result.andThen_ok]

theorem evL_arr {S : St T} {a : Act} {I : Nat -> Prop} {w : World} (hS : FrOK S a I w) {xs : Array Operand} {ys : List (SV T)} (h : evL S xs.toList = some ys) : xs.map a.eval = (SV.toVL ys).toArray /\ SV.validL I w ys := by
 obtain ⟨h1, h2⟩ := evL_ok hS _ _ h
 exact ⟨by apply Array.ext'; simpa using h1, h2⟩

theorem toVL_append (a b : List (SV T)) : SV.toVL (a ++ b) = SV.toVL a ++ SV.toVL b := by
 induction a with
 | nil => rfl
 | cons x r ih => simp [SV.toVL, ih]
theorem sv_validL_append (I : Nat -> Prop) (w : World) (a b : List (SV T)) : SV.validL I w (a ++ b) ↔ SV.validL I w a /\ SV.validL I w b := by
 induction a with
 | nil => simp [SV.validL]
 | cons x r ih => simp [SV.validL, ih, and_assoc]

/-! ### What is known of rows -/
theorem updR_get {f : Rel T -> Rel T} : ∀ (H : List (Ent T)) (i : Nat) (e : Ent T), (updR f H)[i]? = some e -> H[i]? = some e \/ ∃ rel, H[i]? = some (.R rel) /\ e = .R (f rel)
 | [], i, e, h => by simp [updR] at h
 | .R rel :: r, 0, e, h => by simp only [updR, List.getElem?_cons_zero, Option.some.injEq] at h; exact .inr ⟨rel, rfl, h.symm⟩
 | .R rel :: r, i + 1, e, h => .inl (by simpa [updR] using h)
 | .B _ _ _ :: r, 0, e, h => .inl (by simpa [updR] using h)
 | .O _ _ _ :: r, 0, e, h => .inl (by simpa [updR] using h)
 | .F _ :: r, 0, e, h => .inl (by simpa [updR] using h)
 | .X :: r, 0, e, h => .inl (by simpa [updR] using h)
 | .B _ _ _ :: r, i + 1, e, h => by simp only [updR, List.getElem?_cons_succ] at h ⊢; exact updR_get r i e h
 | .O _ _ _ :: r, i + 1, e, h => by simp only [updR, List.getElem?_cons_succ] at h ⊢; exact updR_get r i e h
 | .F _ :: r, i + 1, e, h => by simp only [updR, List.getElem?_cons_succ] at h ⊢; exact updR_get r i e h
 | .X :: r, i + 1, e, h => by simp only [updR, List.getElem?_cons_succ] at h ⊢; exact updR_get r i e h
theorem updR_has {f : Rel T -> Rel T} : ∀ (H : List (Ent T)) (i : Nat) (e : Ent T) (k : Nat), H[i]? = some e -> e.has k -> (updR f H)[i]? = some e
 | [], i, e, k, h, _ => by simp at h
 | .R rel :: r, 0, e, k, h, hk => by simp only [List.getElem?_cons_zero, Option.some.injEq] at h; subst h; exact hk.elim
 | .R rel :: r, i + 1, e, k, h, _ => by simpa [updR] using h
 | .B _ _ _ :: r, 0, e, k, h, _ => by simpa [updR] using h
 | .O _ _ _ :: r, 0, e, k, h, _ => by simpa [updR] using h
 | .F _ :: r, 0, e, k, h, _ => by simpa [updR] using h
 | .X :: r, 0, e, k, h, _ => by simpa [updR] using h
 | .B _ _ _ :: r, i + 1, e, k, h, hk => by simp only [updR, List.getElem?_cons_succ] at h ⊢; exact updR_has r i e k h hk
 | .O _ _ _ :: r, i + 1, e, k, h, hk => by simp only [updR, List.getElem?_cons_succ] at h ⊢; exact updR_has r i e k h hk
 | .F _ :: r, i + 1, e, k, h, hk => by simp only [updR, List.getElem?_cons_succ] at h ⊢; exact updR_has r i e k h hk
 | .X :: r, i + 1, e, k, h, hk => by simp only [updR, List.getElem?_cons_succ] at h ⊢; exact updR_has r i e k h hk
theorem updR_owns {f : Rel T -> Rel T} {H : List (Ent T)} : Owns (updR f H) = Owns H := by
 funext k
 refine propext ⟨?_, ?_⟩
 . rintro ⟨i, e, hi, hk⟩
   rcases updR_get H i e hi with h | ⟨rel, _, rfl⟩
   . exact ⟨i, e, h, hk⟩
   . exact hk.elim
 . rintro ⟨i, e, hi, hk⟩
   exact ⟨i, e, updR_has H i e k hi hk, hk⟩
theorem updR_hok {C : Ctx T} {f : Rel T -> Rel T} {H : List (Ent T)} {w : World} (hH : HOK C H w) (hf : ∀ rel, (Ent.R rel).ok (Owns H) w -> (Ent.R (f rel)).ok (Owns H) w) : HOK C (updR f H) w := by
 refine ⟨fun i e hi => ?_, fun i j e e' k hi hj he he' => ?_, fun k hk => hH.lt k (by rwa [updR_owns] at hk), fun g v hg => ?_⟩
 . rw [updR_owns]
   rcases updR_get H i e hi with h | ⟨rel, h, rfl⟩
   . exact hH.ents i e h
   . exact hf rel (hH.ents i _ h)
 . rcases updR_get H i e hi with h | ⟨rel, h, rfl⟩
   . rcases updR_get H j e' hj with h' | ⟨rel, h', rfl⟩
     . exact hH.apart i j e e' k h h' he he'
     . exact he'.elim
   . exact he.elim
 . rw [updR_owns]; exact hH.glob g v hg
theorem opnV_den {I : Nat -> Prop} {w : World} {x : SV T} {k : SV T -> VCT} (h : (opnV x k).den) (hx : x.valid I w) : (k x).den := by
 unfold opnV at h
 split at h
 . obtain ⟨A, c, rfl⟩ := hx
   exact h A c rfl
 . obtain ⟨A, c, rfl, _⟩ := hx
   exact h A c rfl
 . obtain ⟨A, rfl⟩ := ovOK.slice hx
   exact h A _ rfl
 . exact h
theorem opnS_den {I : Nat -> Prop} {w : World} : ∀ {xs : List (Seg T)} {k : List (Seg T) -> VCT}, (opnS xs k).den -> Seg.validL I w xs -> (k xs).den
 | [], k, h, _ => h
 | .c x :: r, k, h, hx => opnS_den (k := fun r => k (.c x :: r)) (opnV_den (k := fun x => opnS r fun r => k (.c x :: r)) h hx.1.1) hx.2
 | .r e n l :: r, k, h, hx => opnS_den (k := fun r' => k (.r e n l :: r')) h hx.2
theorem opn_den {I : Nat -> Prop} {w : World} {x : SV T} {k : SV T -> VCT} (h : (opn x k).den) (hx : x.valid I w) : (k x).den := by
 unfold opn at h
 split at h
 . exact opnS_den (k := fun xs => k (.a xs)) h hx
 . exact opnV_den h hx
theorem opnTo_den {I : Nat -> Prop} {w : World} {u x : SV T} {k : SV T -> VCT} (h : (opnTo u x k).den) (hx : x.valid I w) : (k x).den := by
 unfold opnTo at h
 split at h
 . exact h
 . exact opn_den h hx
theorem opnPs_den {I : Nat -> Prop} {w : World} : ∀ (l : List (Nat × SV T)) {k : List (Nat × SV T) -> VCT}, (opnPs l k).den -> (∀ p ∈ l, p.2.valid I w) -> (k l).den
 | [], k, h, _ => h
 | (i, x) :: r, k, h, hx => opnPs_den r (k := fun r' => k ((i, x) :: r')) (opn_den (k := fun x => opnPs r fun r' => k ((i, x) :: r')) h (hx _ List.mem_cons_self)) fun p hp => hx p (List.mem_cons_of_mem _ hp)
theorem noteS_ok {I : Nat -> Prop} {w : World} : ∀ (segs : List (Seg T)) (rel : Rel T), (∀ e x l, Seg.c (.ro e x l) ∈ segs -> roOK I w e x l) -> (Ent.R rel).ok I w -> (Ent.R (noteS segs rel)).ok I w := by
 intro segs
 induction segs with
 | nil => intro rel _ h; exact h
 | cons s r ih =>
   intro rel hs h
   have hr := fun e x l hm => hs e x l (List.mem_cons_of_mem _ hm)
   cases s with
   | r e n l => exact ih rel hr h
   | c y =>
     cases y with
     | ro e x l =>
       refine ih _ hr ?_
       rintro e' x' l' (h1 | ⟨rfl, rfl, rfl⟩)
       . exact h e' x' l' h1
       . exact hs _ _ _ (List.mem_cons_self)
     | _ => exact ih rel hr h
theorem note_hok {C : Ctx T} {S : St T} {w : World} (segs : List (Seg T)) (hH : HOK C S.H w) (hs : ∀ e x l, Seg.c (.ro e x l) ∈ segs -> roOK (Owns S.H) w e x l) : HOK C (S.note segs).H w /\ Owns (S.note segs).H = Owns S.H /\ (S.note segs).fr = S.fr := by
 unfold St.note
 split
 . exact ⟨updR_hok hH fun rel hr => noteS_ok segs rel hs hr, updR_owns, rfl⟩
 . exact ⟨hH, rfl, rfl⟩
theorem validL_mem {I : Nat -> Prop} {w : World} : ∀ (xs : List (Seg T)), Seg.validL I w xs -> ∀ s ∈ xs, s.valid I w
 | [], _, s, h => by simp at h
 | x :: r, hv, s, h => by
   rcases List.mem_cons.1 h with rfl | h
   . exact hv.1
   . exact validL_mem r hv.2 s h
theorem segs_ro {I : Nat -> Prop} {w : World} {y : SV T} (h : y.valid I w) : ∀ e x l, Seg.c (.ro e x l) ∈ y.segs -> roOK I w e x l := by
 intro e x l hm
 have one : y.segs = [.c y] -> roOK I w e x l := by
   intro he
   rw [he] at hm
   simp only [List.mem_singleton, Seg.c.injEq] at hm
   subst hm
   exact h
 cases y with
 | a xs => exact (validL_mem xs h _ hm).1
 | _ => exact one rfl
theorem notePs_hok {C : Ctx T} {w : World} : ∀ (l : List (Nat × SV T)) (S : St T), HOK C S.H w -> (∀ p ∈ l, p.2.valid (Owns S.H) w) -> HOK C (notePs l S).H w /\ Owns (notePs l S).H = Owns S.H /\ (notePs l S).fr = S.fr
 | [], S, hH, _ => ⟨hH, rfl, rfl⟩
 | (i, x) :: r, S, hH, hv => by
   obtain ⟨h1, h2, h3⟩ := note_hok x.segs hH (segs_ro (hv _ List.mem_cons_self))
   obtain ⟨g1, g2, g3⟩ := notePs_hok r (S.note x.segs) h1 (fun p hp => by rw [h2]; exact hv p (List.mem_cons_of_mem _ hp))
   exact ⟨g1, g2.trans h2, g3.trans h3⟩
theorem frok_same {S S' : St T} {a : Act} {w : World} (h : FrOK S a (Owns S.H) w) (h1 : Owns S'.H = Owns S.H) (h2 : S'.fr = S.fr) : FrOK S' a (Owns S'.H) w := by
 rw [h1]
 exact ⟨by rw [h2]; exact h.size, fun i x hx => h.get i x (by unfold St.get at hx ⊢; rw [<- h2]; exact hx)⟩

theorem convert_ok {P : Program} {w : World} {src dst e : TypeId} {v : Value} {l : List (T.El e)} (hs : P.underlying src = some (.slice e)) (hd : P.underlying dst = some .string) (he : P.underlying e = some (.int .u8)) (h1 : szE T e = 1)
   (h : Src w e v l) (hb : isBytes (l.flatMap (T.enc e).enc)) : (convert src dst v).run P w = .ok (.string (strOf (l.flatMap (T.enc e).enc))) w := by
 have key : ∀ (vs : List Value), isBytes vs -> ∃ ns : List Int, vs = ns.map (Value.int .u8) /\ vs.map byteOf = ns.map fun n => UInt8.ofNat n.toNat := by
   intro vs
   induction vs with
   | nil => intro _; exact ⟨[], rfl, rfl⟩
   | cons v r ih =>
     intro hv
     obtain ⟨n, rfl⟩ := hv v List.mem_cons_self
     obtain ⟨ns, h1, h2⟩ := ih (fun u hu => hv u (List.mem_cons_of_mem _ hu))
     exact ⟨n :: ns, by rw [h1]; rfl, by rw [List.map_cons, List.map_cons, h2]; rfl⟩
 obtain ⟨ns, h2, h3⟩ := key _ hb
 rcases src_cases h with ⟨c, rfl, rfl⟩ | ⟨ad, c, rfl, hc⟩
 . rw [run_convert_bytes_string w src dst e none 0 c hs he hd]
   simp [Conv.bytesToString, strOf]
   rfl
 . have hl := run_loadCells_list (P := P) w ad (l.flatMap (T.enc e).enc) hc
   rw [enc_flat_length, h1, Nat.mul_one] at hl
   rw [h2] at hl
   rw [run_convert_bytes_string w src dst e (some ad) l.length c hs he hd, run_bytesToString w ad l.length c ns hl, foldl_push_bytes]
   unfold strOf
   rw [h3]
   simp [ByteArray.empty, ByteArray.emptyWithCapacity]
   rfl

theorem opx_ok {C : Ctx T} (hz : ZOK C) {sp : Nat -> Option (PT T)} (hsp : ∀ f pt, sp f = some pt -> SpecOK C f pt) {o : Oper} {S : St T} {a : Act} {w : World} {next : St T -> VCT} {pan : SV T -> St T -> VCT}
   (hS : FrOK S a (Owns S.H) w) (hH : HOK C S.H w) (h : (opx C sp o S next pan).den) : Goes C o S a w next pan := by
 unfold opx at h
 split at h
 . exact still_goes hz hS hH h
 split at h
 . -- alloc
   rename_i t hop
   split at h
   . rename_i segs hzt
     have h := h w.heap.size
     obtain ⟨zv, hz1, hz2⟩ := zero_run hz hzt w
     obtain ⟨hH', hst⟩ := alloc_step hH t segs ((hz t segs hzt).2 _ _)
     refine goes_run (v := .pointer (some ⟨w.heap.size, 0, none⟩)) ?_ h (leads_put (x := .p S.H.length w.heap.size (.lit 0)) hS (S1 := S.push _) rfl hH' hst trivial)
     unfold execOp
     simp only [hop]
     simp [Instr.alloc, hz1, newVar, newRow, hz2]
   . exact h.elim
 . -- box
   rename_i t x hop
   split at h
   . exact h.elim
   . exact h.elim
   . rename_i y hnt hnu hy
     have h := h w.heap.size
     obtain ⟨h1, h2⟩ := ev_ok hS hy
     obtain ⟨hc, hvs⟩ := seg_cells_toV h2 (fun xs hx => hnt xs hx) (fun hx => hnu hx)
     obtain ⟨hH', hst⟩ := alloc_step hH t y.segs hvs
     refine goes_run (v := .pointer (some ⟨w.heap.size, 0, none⟩)) ?_ h (leads_put (x := .p S.H.length w.heap.size (.lit 0)) hS (S1 := S.push _) rfl hH' hst trivial)
     unfold execOp
     simp only [hop, h1]
     simp [Instr.box, newVar, newRow, hc]
   . exact h.elim
 . -- store
   rename_i t x y hop
   split at h
   . exact h.elim
   . exact h.elim
   . rename_i u v hnt hnu hu hv
     obtain ⟨h1, h2⟩ := ev_ok hS hu
     obtain ⟨h3, h4⟩ := ev_ok hS hv
     replace h := opnTo_den h h4
     have hp : v.isPart = true := by cases v <;> first | rfl | exact (hnt _ rfl).elim | exact (hnu rfl).elim
     obtain ⟨n1, n2, n3⟩ := note_hok v.segs hH (segs_ro h4)
     obtain ⟨S', w', hn, hrun, hfr, hH', hst⟩ := ptrStore_ok n1 (by rw [n2]; exact h4) hp h
     rw [n3] at hfr
     rw [n2] at hst
     intro nx Q g1 g2
     unfold Oper.wp
     have hr : (execOp a.eval o).run C.P w = .ok .skip w' := by
       unfold execOp
       simp only [hop, h1, h3, Sem.run_bind, hrun, Result.andThen_ok, Sem.run_pure]
     rw [hr, Oper.upon_skip]
     exact g1 _ _ w' hn (leads_put (x := .un) hS hfr hH' hst trivial)
   . exact h.elim
 . -- buildSlice
   rename_i t len ps hop
   split at h
   . rename_i e hd
     split at h
     . rename_i z l n hzt hl hn
       replace h := opnPs_den l h (evP_ok hS _ _ hl).2
       split at h
       . rename_i hc
         obtain ⟨hc1, hc2, hc3⟩ := hc
         split at h
         . rename_i segs hb
           have h := h w.heap.size
           obtain ⟨h1, h2⟩ := evP_ok hS _ _ hl
           obtain ⟨n1, n2, n3⟩ := notePs_hok l S hH h2
           have hS0 := frok_same hS n2 n3
           generalize hSn : notePs l S = Sn at *
           obtain ⟨zv, hz1, hz2⟩ := zero_run hz hzt w
           have hzv := (hz e z hzt).2 (Owns S.H) w
           have hzl := cellsL_length z hzv
           have hrep : ∀ k, Seg.validL (Owns S.H) w (List.replicate k z).flatten /\ Seg.cellsL (List.replicate k z).flatten = (List.replicate k (Seg.cellsL z)).flatten := by
             intro k
             induction k with
             | zero => exact ⟨trivial, rfl⟩
             | succ k ih => simp only [List.replicate_succ, List.flatten_cons, validL_append, cellsL_append, ih.2]; exact ⟨⟨hzv, ih.1⟩, trivial⟩
           obtain ⟨h3, h4⟩ := buildA_ok n l _ segs (hrep len).1 h2 hb
           have hparts : ((ps.map fun (i, x) => (i, a.eval x)) : Array (Nat × Value)).toList = l.map fun p => (p.1, p.2.toV) := by
             rw [<- h1]; simp
           have hsl := cellsL_length segs h4
           have hzero : ((Array.range (len * n)).map (((Seg.cellsL z).toArray)[· % ((Seg.cellsL z).toArray).size]!)) = (Seg.cellsL (List.replicate len z).flatten).toArray := by
             have hzs : ((Seg.cellsL z).toArray).size = n := by simp [hzl, hc1]
             have := madeCells_flat (Seg.cellsL z).toArray (by rw [hzs]; omega) len
             rw [hzs] at this
             apply Array.ext'
             rw [(hrep len).2]
             unfold madeCells at this
             exact this
           have hrun : (execOp a.eval o).run C.P w = .ok (.value (.slice (some ⟨w.heap.size, 0, none⟩) len len)) (w.alloc (.cells (Seg.cellsL segs).toArray e)) := by
             unfold execOp
             simp only [hop]
             unfold Instr.buildSlice
             simp only [Sem.run_bind, run_underlying hd, Result.andThen_ok, sizeT_run hn]
             rw [if_neg (by omega)]
             by_cases h0 : len * n = 0
             . have hlen0 : len = 0 := by rcases Nat.mul_eq_zero.1 h0 with h | h <;> omega
               subst hlen0
               simp only [Nat.zero_mul, if_true, Sem.run_bind, Sem.run_pure, Result.andThen_ok]
               rw [show ((Array.range 0).map (fun x => (#[] : Array Value)[x % (#[] : Array Value).size]!)) = (Seg.cellsL (List.replicate 0 z).flatten).toArray by simp [Seg.cellsL], hparts, h3]
               simp [newRow]
             . simp only [if_neg h0, Sem.run_bind, hz1, Result.andThen_ok, Sem.run_pure, hz2]
               rw [hzero, hparts, h3]
               simp [newRow]
           have hdef : ∀ {x : SV T} {S1 : St T} {w' : World}, S1.fr = Sn.fr -> HOK C S1.H w' -> Stp (Owns Sn.H) (Owns S1.H) w w' -> x.valid (Owns S1.H) w' -> Leads C S (S1.set o.dst x) o a (a.put o.dst x.toV) w w' :=
             fun f1 f2 f3 f4 => leads_put hS (f1.trans n3) f2 (by rw [n2] at f3; exact f3) f4
           split at h
           . rename_i xs hxs
             split at hxs
             . rename_i hne
               obtain ⟨d1, d2⟩ := decL_ok _ _ _ _ hxs
               have hcells : xs.flatMap (T.enc e).enc = Seg.cellsL segs := by
                 rw [d2]
                 exact List.take_of_length_le (by rw [hsl, hne.2, hne.1]; exact Nat.le_refl _)
               have hown : (w.alloc (.cells (Seg.cellsL segs).toArray e)).ownsRow 0 e (szE T e) (.slice (some ⟨w.heap.size, 0, none⟩) len len) xs.length (xs.flatMap (T.enc e).enc) := by
                 refine ⟨enc_flat_length e _, .inr ⟨w.heap.size, len, _, by rw [d1], Nat.zero_le _, heap_alloc_new w _, by rw [d1]; exact Nat.le_refl _, by simp only [maxLen]; have : len * 1 <= len * n := Nat.mul_le_mul_left _ (by omega); omega, ?_, ?_⟩⟩
                 . rw [List.size_toArray, hsl, hne.2, hne.1]
                 . rw [hcells]
                   exact List.take_of_length_le (by rw [<- hcells, enc_flat_length]; exact Nat.le_refl _)
               obtain ⟨hH', hst⟩ := n1.push (.O (.slice (some ⟨w.heap.size, 0, none⟩) len len) e xs) (w' := w.alloc (.cells (Seg.cellsL segs).toArray e)) rfl rfl rfl (by simp) (fun k hk => heap_alloc_old w _ k hk) (fun k hk => by
                 simp only [Ent.has, Value.ownBlock, Option.some.injEq] at hk
                 subst hk
                 exact ⟨Nat.le_refl _, by simp⟩) (fun I s => hown)
               exact goes_run hrun h (hdef (x := .o Sn.H.length e (.slice (some ⟨w.heap.size, 0, none⟩) len len) len) (S1 := Sn.push _) rfl hH' hst ⟨_, _, rfl⟩)
             . cases hxs
           . have htv : SV.toV (T := T) (.s Sn.H.length w.heap.size e 0 0 len len) = .slice (some ⟨w.heap.size, 0, none⟩) len len := by simp [SV.toV]
             rw [<- htv] at hrun
             split at h
             . rename_i hne
               obtain ⟨hH', hst⟩ := alloc_step n1 e segs (by rw [n2]; exact h4)
               exact goes_run hrun h (hdef (x := .s Sn.H.length w.heap.size e 0 0 len len) (S1 := Sn.push _) rfl hH' hst trivial)
             . exact h.elim
         . exact h.elim
       . exact h.elim
     . exact h.elim
   . exact h.elim
 . -- makeSlice
   rename_i t l c hop
   split at h
   . rename_i e n m hd hn hm
     split at h
     . rename_i z by_ sz hzt hb hs
       split at h
       . rename_i hc
         obtain ⟨hc1, hc2⟩ := hc
         subst hc1
         split at h
         . rename_i u hu
           obtain ⟨⟨g1, g2, g3⟩, h⟩ := factB_den h
           obtain ⟨kl, hl⟩ := idxInt_ok hS hn
           obtain ⟨kc, hcc⟩ := idxInt_ok hS hm
           have henc := (T.enc e).dec_ok _ _ hu
           obtain ⟨hz0, _⟩ := hz e z hzt
           cases hi : C.P.info? e with
           | none => rw [hi] at hz0; cases hz0
           | some i =>
             rw [hi] at hz0
             simp only [Option.bind_some, Option.map_eq_some_iff] at hz0
             obtain ⟨zv, hzz, hzc⟩ := hz0
             have hby : i.bytes = by_ := by unfold bytesT at hb; rw [hi] at hb; simpa using hb
             have hsz : i.size = szE T e := by unfold sizeT at hs; rw [hi] at hs; simpa using hs
             have hzs : zv.cells.size = szE T e := by
               have := (T.enc e).len u
               rw [<- Array.length_toList, hzc, <- henc]; exact this
             have hmk := run_make (P := C.P) w t e i zv hd hi hzz kl kc n m g1 g2 (by
               rw [hby]
               have := g3.2
               have h2 : ((m.toNat * by_ : Nat) : Int) <= 140737488355328 := by omega
               rw [Int.natCast_mul, Int.toNat_of_nonneg (by omega), Int.mul_comm] at h2
               omega) (by have := g3.1; omega)
             have h0 := h
             have h := h (.slice (some ⟨w.heap.size, 0, none⟩) n.toNat m.toNat)
             have hfl : (madeCells zv.cells (m.toNat * i.size)).toList = (List.replicate m.toNat u).flatMap (T.enc e).enc := by
               rw [flat_replicate, henc, <- hzc, hsz, <- hzs]
               exact madeCells_flat zv.cells (by omega) _
             have hown : (w.alloc (.cells (madeCells zv.cells (m.toNat * i.size)) e)).ownsRow 0 e (szE T e) (.slice (some ⟨w.heap.size, 0, none⟩) n.toNat m.toNat) (List.replicate n.toNat u).length ((List.replicate n.toNat u).flatMap (T.enc e).enc) := by
               refine ⟨enc_flat_length e _, .inr ⟨w.heap.size, m.toNat, madeCells zv.cells (m.toNat * i.size), by simp, Nat.zero_le _, ?_, by simp; omega, g3.1, by rw [size_madeCells, hsz], ?_⟩⟩
               . show (w.heap.push _)[w.heap.size]? = _
                 simp
               . rw [hfl, List.length_replicate, flat_take, List.take_replicate, Nat.min_eq_left (by omega)]
             have hrun : (execOp a.eval o).run C.P w = .ok (.value (.slice (some ⟨w.heap.size, 0, none⟩) n.toNat m.toNat)) (w.alloc (.cells (madeCells zv.cells (m.toNat * i.size)) e)) := by
               unfold execOp
               simp only [hop, hl, hcc]
               simp only [Sem.run_bind, hmk, Result.andThen_ok, Sem.run_pure]
             by_cases hso : (sameOp l c || C.tight) = true
             . simp only [if_pos hso] at h
               obtain ⟨hH', hst⟩ := hH.push (.O (.slice (some ⟨w.heap.size, 0, none⟩) n.toNat m.toNat) e (List.replicate n.toNat u)) (w' := w.alloc (.cells (madeCells zv.cells (m.toNat * i.size)) e)) rfl rfl rfl (by simp) (fun k hk => by
                 show (w.heap.push _)[k]? = _
                 rw [Array.getElem?_push, if_neg (by omega)]) (fun k hk => by
                 simp only [Ent.has, Value.ownBlock, Option.some.injEq] at hk; subst hk; simp) (fun I s => hown)
               exact goes_run (v := .slice (some ⟨w.heap.size, 0, none⟩) n.toNat m.toNat) hrun h (leads_put (x := .o S.H.length e _ n.toNat) hS (S1 := S.push _) rfl hH' hst ⟨_, _, rfl⟩)
             . have h := h0 (.slice (some ⟨w.heap.size, 0, none⟩) m.toNat m.toNat)
               simp only [if_neg hso] at h
               have h := h rfl
               have hown : (w.alloc (.cells (madeCells zv.cells (m.toNat * i.size)) e)).ownsRow 0 e (szE T e) (.slice (some ⟨w.heap.size, 0, none⟩) m.toNat m.toNat) (List.replicate m.toNat u).length ((List.replicate m.toNat u).flatMap (T.enc e).enc) := by
                 refine ⟨enc_flat_length e _, .inr ⟨w.heap.size, m.toNat, madeCells zv.cells (m.toNat * i.size), by simp, Nat.zero_le _, ?_, by simp, g3.1, by rw [size_madeCells, hsz], ?_⟩⟩
                 . show (w.heap.push _)[w.heap.size]? = _
                   simp
                 . rw [hfl, List.length_replicate, flat_take, List.take_replicate, Nat.min_self]
               obtain ⟨hH', hst⟩ := hH.push (.O (.slice (some ⟨w.heap.size, 0, none⟩) m.toNat m.toNat) e (List.replicate m.toNat u)) (w' := w.alloc (.cells (madeCells zv.cells (m.toNat * i.size)) e)) rfl rfl rfl (by simp) (fun k hk => by
                 show (w.heap.push _)[k]? = _
                 rw [Array.getElem?_push, if_neg (by omega)]) (fun k hk => by
                 simp only [Ent.has, Value.ownBlock, Option.some.injEq] at hk; subst hk; simp) (fun I s => hown)
               have hval : sliceVal (.slice (some ⟨w.heap.size, 0, none⟩) m.toNat m.toNat) 0 n.toNat (szE T e) = .slice (some ⟨w.heap.size, 0, none⟩) n.toNat m.toNat := by
                 simp only [sliceVal, Nat.sub_zero, Nat.zero_mul]
                 congr 1
                 split <;> simp [Addr.add]
               rw [<- hval] at hrun
               exact goes_run (v := sliceVal (.slice (some ⟨w.heap.size, 0, none⟩) m.toNat m.toNat) 0 n.toNat (szE T e)) hrun h (leads_put (x := .ov S.H.length e _ 0 n.toNat (sliceVal (.slice (some ⟨w.heap.size, 0, none⟩) m.toNat m.toNat) 0 n.toNat (szE T e))) hS (S1 := S.push _) rfl hH' hst ⟨_, _, _, rfl, .inl rfl⟩)
         . exact h.elim
       . exact h.elim
     . exact h.elim
   . exact h.elim
 . -- convert
   rename_i src dst x hop
   split at h
   . rename_i e y hs hd hy
     obtain ⟨h1, h2⟩ := ev_ok hS hy
     split at h
     . rename_i he
       split at h
       . rename_i hsz
         obtain ⟨l, ⟨hb, h⟩, hsrc⟩ := srcK_ok hH h2 h
         refine goes_run (v := .string (strOf (l.flatMap (T.enc e).enc))) ?_ h (leads_put (x := .v (.string (strOf (l.flatMap (T.enc e).enc)))) hS (S1 := S) rfl hH (Stp.refl _ _) rfl)
         unfold execOp
         simp only [hop, h1]
         exact lift_val (convert_ok hs hd he hsz hsrc hb)
       . exact h.elim
     . exact h.elim
   . exact h.elim
 . -- panic
   rename_i x hop
   split at h
   . rename_i t y hx
     obtain ⟨h1, h2⟩ := ev_ok hS hx
     intro nx Q g1 g2
     unfold Oper.wp
     have hr : (execOp a.eval o).run C.P w = .halt (.panic (SV.toV (T := T) (.i t y))) w := by
       unfold execOp
       simp only [hop, h1, Sem.run_bind]
       rfl
     rw [hr, Oper.upon_panic]
     exact g2 (.i t y) S w h h2 hS hH (Stp.refl _ _)
   . rename_i t y hx
     obtain ⟨h1, h2⟩ := ev_ok hS hx
     intro nx Q g1 g2
     unfold Oper.wp
     have hr : (execOp a.eval o).run C.P w = .halt (.panic (SV.toV (T := T) (.v (.iface t y)))) w := by
       unfold execOp
       simp only [hop, h1, Sem.run_bind]
       rfl
     rw [hr, Oper.upon_panic]
     exact g2 (.v (.iface t y)) S w h h2 hS hH (Stp.refl _ _)
   . exact h.elim
 . -- call
   rename_i c hop
   split at h
   . -- append
     rename_i hcal
     split at h
     . rename_i x y t t' hargs hts
       split at h
       . rename_i htt
         subst htt
         split at h
         . rename_i u v hu hv
           obtain ⟨h1, h2⟩ := ev_ok hS hu
           obtain ⟨h3, h4⟩ := ev_ok hS hv
           obtain ⟨S', r, w', hn, hrun, hl⟩ := appendK_ok (ty := o.type) hS hH h2 h4 h
           refine goes_run ?_ hn hl
           obtain ⟨cal, args, ts⟩ := c
           simp only at hcal hargs hts
           subst hcal
           have ha : args = #[x, y] := by apply Array.ext'; simpa using hargs
           have hb : ts = #[t, t] := by apply Array.ext'; simpa using hts
           subst ha hb
           rw [builtin_exec _ _ _ _ _ hop]
           simp only [builtin, List.map_toArray, List.map_cons, List.map_nil, h1, h3, Sem.run_bind, hrun, Result.andThen_ok, Sem.run_pure]
         . exact h.elim
       . split at h
         . rename_i u v hu hv
           obtain ⟨h1, h2⟩ := ev_ok hS hu
           obtain ⟨h3, h4⟩ := ev_ok hS hv
           obtain ⟨S', r, w', hn, hrun, hl⟩ := zerosK_ok (ty := o.type) hS hH h
           refine goes_run ?_ hn hl
           obtain ⟨cal, args, ts⟩ := c
           simp only at hcal hargs hts
           subst hcal
           have ha : args = #[x, y] := by apply Array.ext'; simpa using hargs
           have hb : ts = #[t, t'] := by apply Array.ext'; simpa using hts
           subst ha hb
           rw [builtin_exec _ _ _ _ _ hop]
           simp only [builtin, List.map_toArray, List.map_cons, List.map_nil, h1, h3, Sem.run_bind, hrun, Result.andThen_ok, Sem.run_pure]
         . exact h.elim
     . exact h.elim
   . -- copy
     rename_i hcal
     split at h
     . rename_i x y t t' hargs hts
       split at h
       . rename_i htt
         subst htt
         split at h
         . rename_i u v hu hv
           obtain ⟨h1, h2⟩ := ev_ok hS hu
           obtain ⟨h3, h4⟩ := ev_ok hS hv
           obtain ⟨S', r, w', hn, hrun, hl⟩ := copyK_ok (ty := o.type) hS hH h2 h4 h
           refine goes_run ?_ hn hl
           obtain ⟨cal, args, ts⟩ := c
           simp only at hcal hargs hts
           subst hcal
           have ha : args = #[x, y] := by apply Array.ext'; simpa using hargs
           have hb : ts = #[t, t] := by apply Array.ext'; simpa using hts
           subst ha hb
           rw [builtin_exec _ _ _ _ _ hop]
           simp only [builtin, List.map_toArray, List.map_cons, List.map_nil, h1, h3, Sem.run_bind, hrun, Result.andThen_ok, Sem.run_pure]
         . exact h.elim
       . exact h.elim
     . exact h.elim
   . exact h.elim
   . rename_i f hcal
     split at h
     . rename_i args hargs
       obtain ⟨h1, h2⟩ := evL_arr hS hargs
       exact call_goes hsp hS hH h2 rfl (by rw [value_call _ _ c hop _ hcal f #[] #[] rfl, h1]; simp) h
     . exact h.elim
   . rename_i g _ hcal
     split at h
     . rename_i f p q args hg hargs
       obtain ⟨h1, h2⟩ := evL_arr hS hargs
       obtain ⟨h3, h4⟩ := ev_ok hS hg
       refine call_goes hsp hS hH ?_ rfl (by rw [value_call _ _ c hop _ hcal f (SV.toVL p).toArray (SV.toVL q).toArray h3, h1]; simp [toVL_append]) h
       rw [sv_validL_append, sv_validL_append]
       exact ⟨⟨h4.1, h2⟩, h4.2⟩
     . rename_i f p q args hg hargs
       obtain ⟨h1, h2⟩ := evL_arr hS hargs
       obtain ⟨h3, h4⟩ := ev_ok hS hg
       split at h
       . rename_i hpq
         have hp : p = #[] := Array.eq_empty_of_size_eq_zero hpq.1
         have hq : q = #[] := Array.eq_empty_of_size_eq_zero hpq.2
         subst hp hq
         exact call_goes hsp hS hH h2 rfl (by rw [value_call _ _ c hop _ hcal f #[] #[] h3, h1]; simp) h
       . exact h.elim
     . exact h.elim
   . rename_i r name hcal
     split at h
     . rename_i t y args hr hargs
       obtain ⟨h1, h2⟩ := evL_arr hS hargs
       obtain ⟨h3, h4⟩ := ev_ok hS hr
       split at h
       . rename_i f hm
         exact call_goes hsp hS hH (show SV.validL _ _ (y :: args) from ⟨h4, h2⟩) rfl (by rw [invoke_call _ _ c hop _ _ hcal _ t _ f h3 hm, h1]; simp [SV.toVL]) h
       . exact h.elim
     . rename_i t y args hr hargs
       obtain ⟨h1, h2⟩ := evL_arr hS hargs
       obtain ⟨h3, h4⟩ := ev_ok hS hr
       split at h
       . rename_i f hm
         split at h
         . rename_i hy1
           exact call_goes hsp hS hH (show SV.validL _ _ (.v y :: args) from ⟨hy1, h2⟩) rfl (by rw [invoke_call _ _ c hop _ _ hcal _ t _ f h3 hm, h1]; simp [SV.toVL, SV.toV]) h
         . exact h.elim
       . exact h.elim
     . exact h.elim
 . exact h.elim
end Go.Vg
/-
 The generator's soundness, part 12: regions, code, functions.
-/
set_option linter.unusedVariables false
namespace Go.Vg
variable {T : Tys}

structure Lead (C : Ctx T) (ws : List Tmp) (S S' : St T) (a a' : Act) (w w' : World) : Prop where
 fr : FrOK S' a' (Owns S'.H) w'
 H : HOK C S'.H w'
 stp : Stp (Owns S.H) (Owns S'.H) w w'
 defers : a'.defers = a.defers
 same : ∀ i, i ∉ ws -> a'.tmps[i]? = a.tmps[i]?
 len : S'.fr.length = S.fr.length

theorem Lead.trans {C : Ctx T} {ws ws' : List Tmp} {S S' S'' : St T} {a a' a'' : Act} {w w' w'' : World} (h : Lead C ws S S' a a' w w') (k : Lead C ws' S' S'' a' a'' w' w'') : Lead C (ws ++ ws') S S'' a a'' w w'' :=
 ⟨k.fr, k.H, h.stp.trans k.stp, k.defers.trans h.defers, fun i hi => (k.same i (fun h => hi (by simp [h]))).trans (h.same i (fun h => hi (by simp [h]))), k.len.trans h.len⟩
theorem Lead.mono {C : Ctx T} {ws ws' : List Tmp} {S S' : St T} {a a' : Act} {w w' : World} (h : Lead C ws S S' a a' w w') (hw : ∀ i ∈ ws, i ∈ ws') : Lead C ws' S S' a a' w w' :=
 ⟨h.fr, h.H, h.stp, h.defers, fun i hi => h.same i (fun h' => hi (hw i h')), h.len⟩
theorem Lead.refl {C : Ctx T} {S S' : St T} {a : Act} {w : World} (ws : List Tmp) (hf : FrOK S' a (Owns S'.H) w) (hH : HOK C S.H w) (he : S'.H = S.H) (hl : S'.fr.length = S.fr.length) : Lead C ws S S' a a w w :=
 ⟨hf, by rw [he]; exact hH, by rw [he]; exact Stp.refl _ _, rfl, fun _ _ => rfl, hl⟩

theorem frOK_bool {S : St T} {a : Act} {I : Nat -> Prop} {w : World} (h : FrOK S a I w) {d : Nat} {t : Bool} (hd : S.get d = some (.v (.bool t))) : FrOK (S.set (some d) (.v (.bool t))) a I w := by
 refine ⟨by simp [St.set, Fr.set, h.size], fun i x hx => ?_⟩
 rcases St.get_set hx with ⟨rfl, rfl, _⟩ | ⟨_, hx⟩
 . exact h.get _ _ hd
 . exact h.get i x hx

theorem set_len (S : St T) (d : Option Tmp) (x : SV T) : (S.set d x).fr.length = S.fr.length := by cases d <;> simp [St.set, Fr.set]
theorem set_H (S : St T) (d : Option Tmp) (x : SV T) : (S.set d x).H = S.H := by cases d <;> rfl

theorem guardx_ok {C : Ctx T} {ops : List Oper} {o : Oper} {S : St T} {run skip : St T -> VCT} {a : Act} {w : World} (hS : FrOK S a (Owns S.H) w) (hH : HOK C S.H w) (h : (guardx ops o S run skip).den) :
   (∃ S1, Region.wanted o (yielded ops.toArray a.tmps) = true /\ (run S1).den /\ Lead C [] S S1 a a w w) \/
   (∃ S1, Region.wanted o (yielded ops.toArray a.tmps) = false /\ (skip S1).den /\ Lead C o.dst.toList S S1 a (a.put o.dst undef) w w) := by
 have skp : ∀ (S1 : St T), FrOK S1 a (Owns S1.H) w -> S1.H = S.H -> S1.fr.length = S.fr.length -> Lead C o.dst.toList S (S1.set o.dst .un) a (a.put o.dst undef) w w := by
   intro S1 h1 h2 h3
   refine ⟨by rw [set_H]; exact frOK_set h1 o.dst (x := .un) trivial, by rw [set_H, h2]; exact hH, by rw [set_H, h2]; exact Stp.refl _ _, put_defers _ _ _, fun i hi => put_same _ _ _ i (fun h0 => hi (by rw [h0]; simp)), by rw [set_len, h3]⟩
 unfold guardx at h
 split at h
 . rename_i hg
   exact .inl ⟨S, by simp [Region.wanted, hg], h, Lead.refl _ hS hH rfl rfl⟩
 . rename_i j want hg
   split at h
   . rename_i d hd
     have hy : ∀ v, a.tmps[d]? = some v -> yielded ops.toArray a.tmps j = (match (some v : Option Value) with | some (.bool b) => some b | _ => none) := by
       intro v hv
       unfold yielded
       have : ((ops.toArray[j]?).bind (·.dst)).bind (a.tmps[·]?) = some v := by simp [hd, hv]
       rw [this]
       cases v <;> rfl
     split at h
     . rename_i t ht
       have h1 := (hS.get d _ ht).1
       have h2 := hy _ h1
       simp only [SV.toV] at h2
       simp only at h
       have hb := frOK_bool hS ht
       split at h
       . rename_i hw
         obtain ⟨g1, g2⟩ := br_split h
         cases t
         . exact .inr ⟨_, by simp [Region.wanted, hg, h2, hw], g2 rfl, skp _ hb rfl (set_len _ _ _)⟩
         . exact .inl ⟨_, by simp [Region.wanted, hg, h2, hw], g1 rfl, Lead.refl _ hb hH rfl (set_len _ _ _)⟩
       . rename_i hw
         have hw : want = false := by simpa using hw
         obtain ⟨g1, g2⟩ := br_split h
         cases t
         . exact .inl ⟨_, by simp [Region.wanted, hg, h2, hw], g2 rfl, Lead.refl _ hb hH rfl (set_len _ _ _)⟩
         . exact .inr ⟨_, by simp [Region.wanted, hg, h2, hw], g1 rfl, skp _ hb rfl (set_len _ _ _)⟩
     . rename_i ht
       have h1 := (hS.get d _ ht).1
       have h2 := hy _ h1
       simp only [SV.toV, undef] at h2
       exact .inr ⟨_, by simp [Region.wanted, hg, h2], h, skp S hS rfl rfl⟩
     . exact h.elim
   . exact h.elim

theorem leads_lead {C : Ctx T} {S S' : St T} {o : Oper} {a a' : Act} {w w' : World} (h : Leads C S S' o a a' w w') : Lead C o.dst.toList S S' a a' w w' :=
 ⟨h.fr, h.H, h.stp, h.defers, fun i hi => h.same i (fun h0 => hi (by rw [h0]; simp)), h.len⟩

def dsts (l : List Oper) : List Tmp := l.filterMap (·.dst)
theorem dsts_cons (o : Oper) (r : List Oper) : dsts (o :: r) = o.dst.toList ++ dsts r := by
 unfold dsts
 cases h : o.dst <;> simp [h]

theorem opsx_ok {C : Ctx T} (hz : ZOK C) {sp : Nat -> Option (PT T)} (hsp : ∀ f pt, sp f = some pt -> SpecOK C f pt) {ops : List Oper} {K : St T -> VCT} {pan : SV T -> St T -> VCT} : ∀ (l : List Oper) (S : St T) (a : Act) (w : World),
   FrOK S a (Owns S.H) w -> HOK C S.H w -> (opsx C sp ops l S K pan).den -> ∀ Q : Exit -> Act -> World -> Prop,
   (∀ S' a' w', (K S').den -> Lead C (dsts l) S S' a a' w w' -> Q .normal a' w') ->
   (∀ x S' a' w', (pan x S').den -> x.valid (Owns S'.H) w' -> Lead C (dsts l) S S' a a' w w' -> Q (.panic [{ v := x.toV, recovered := false }]) a' w') -> wpList C.P ops.toArray Q l a w := by
 intro l
 induction l with
 | nil =>
   intro S a w hS hH h Q h1 _
   exact h1 S a w h (Lead.refl _ hS hH rfl rfl)
 | cons o r ih =>
   intro S a w hS hH h Q h1 h2
   simp only [opsx] at h
   rw [dsts_cons] at h1 h2
   unfold wpList
   rcases guardx_ok hS hH h with ⟨S1, hw, h, hl⟩ | ⟨S1, hw, h, hl⟩
   . rw [if_pos hw]
     rw [forceF_eq] at h
     left
     refine opx_ok hz hsp hl.fr hl.H h _ _ (fun S' a' w' hn hld => ?_) (fun x S' w' hp hx hf hH' hst => ?_)
     . rw [forceF_eq, forceM_eq] at hn
       have hl' := hl.trans (leads_lead hld)
       refine ih S' a' w' hld.fr hld.H hn Q (fun S2 a2 w2 hk hl2 => h1 S2 a2 w2 hk ?_) (fun x S2 a2 w2 hp hx hl2 => h2 x S2 a2 w2 hp hx ?_)
       . exact hl'.trans hl2
       . exact hl'.trans hl2
     . exact h2 x S' a w' hp hx ⟨hf, hH', hl.stp.trans hst, rfl, fun _ _ => rfl, by rw [<- hf.size, hS.size]⟩
   . rw [if_neg (by rw [hw]; simp)]
     rw [forceF_eq] at h
     refine ih S1 _ w hl.fr hl.H h Q (fun S2 a2 w2 hk hl2 => h1 S2 a2 w2 hk (hl.trans hl2)) (fun x S2 a2 w2 hp hx hl2 => h2 x S2 a2 w2 hp hx (hl.trans hl2))

theorem lead_drew {C : Ctx T} {S : St T} {a : Act} {w : World} (hS : FrOK S a (Owns S.H) w) (hH : HOK C S.H w) (n : Nat) : Lead C [] S S a a w { w with drawn := n } := by
 have s : Stp (Owns S.H) (Owns S.H) w { w with drawn := n } := ⟨rfl, rfl, rfl, Nat.le_refl _, fun _ _ _ => rfl, fun _ h => .inl h⟩
 refine ⟨hS.step s, ⟨fun i e he => Ent.ok_step s e (hH.ents i e he) (fun _ _ => rfl), hH.apart, hH.lt, fun g v hg => hH.glob g v hg⟩, s, rfl, fun _ _ => rfl, rfl⟩

/-! ### Regions that draw their order -/
theorem hasBit_lor (m i j : Nat) : hasBit (Nat.lor m (bitOf i)) j = (hasBit m j || decide (i = j)) := by
 show Nat.testBit (m ||| (1 <<< i)) j = _
 rw [Nat.testBit_or, Nat.one_shiftLeft, Nat.testBit_two_pow]
 rfl
theorem hasBit_or (m k j : Nat) : hasBit (Nat.lor m k) j = (hasBit m j || hasBit k j) := by
 show Nat.testBit (m ||| k) j = _
 rw [Nat.testBit_or]
 rfl
theorem hasBit_bit (i j : Nat) : hasBit (bitOf i) j = decide (i = j) := by
 show Nat.testBit (1 <<< i) j = _
 rw [Nat.one_shiftLeft, Nat.testBit_two_pow]
theorem hasBit_zero (j : Nat) : hasBit 0 j = false := by show Nat.testBit 0 j = false; simp
theorem afterMask_ok (o : Oper) (k : Nat) : hasBit (afterMask o) k = true ↔ ∃ e ∈ o.after, Region.binds .any e = true /\ e.on = k := by
 have key : ∀ (l : List Edge) (m : Nat), hasBit (l.foldl (fun m e => cond (Region.binds .any e) (Nat.lor m (bitOf e.on)) m) m) k = true ↔ hasBit m k = true \/ ∃ e ∈ l, Region.binds .any e = true /\ e.on = k := by
   intro l
   induction l with
   | nil => intro m; simp
   | cons e r ih =>
     intro m
     rw [List.foldl_cons, ih]
     cases hb : Region.binds .any e with
     | false => simp [hb]
     | true =>
       simp only [cond, hasBit_lor, Bool.or_eq_true, decide_eq_true_eq, List.mem_cons, exists_eq_or_imp, hb, true_and]
       constructor
       . rintro ((h | h) | h)
         . exact .inl h
         . exact .inr (.inl h)
         . exact .inr (.inr h)
       . rintro (h | h | h)
         . exact .inl (.inl h)
         . exact .inl (.inr h)
         . exact .inr h
 unfold afterMask
 rw [key]
 simp [hasBit_zero]
theorem mask_sub (a m : Nat) : Nat.beq (Nat.land a m) a = true ↔ ∀ k, hasBit a k = true -> hasBit m k = true := by
 constructor
 . intro h k hk
   have h : a &&& m = a := Nat.eq_of_beq_eq_true h
   have h2 : (a &&& m).testBit k = a.testBit k := by rw [h]
   rw [Nat.testBit_and] at h2
   have hk : a.testBit k = true := hk
   rw [hk] at h2
   show m.testBit k = true
   simpa using h2
 . intro h
   have : a &&& m = a := by
     apply Nat.eq_of_testBit_eq
     intro k
     rw [Nat.testBit_and]
     cases hk : a.testBit k with
     | false => simp
     | true => have h2 := h k hk; have h2 : m.testBit k = true := h2; simp [h2]
   show Nat.beq (a &&& m) a = true
   rw [this]
   exact Nat.beq_refl a
theorem softAll_ok {ops : List Oper} {d j : Nat} : ∀ (l : List Oper) (i0 : Nat), softAll ops d j l i0 = true -> ∀ (k : Nat) (o : Oper), l[k]? = some o ->
   (i0 + k = j -> d ∉ looks ops o) /\ (i0 + k ≠ j -> (d ∈ looks ops o -> hasBit (afterMask o) j = true) /\ o.dst ≠ some d)
 | [], _, _, k, o, h => by simp at h
 | x :: r, i0, h, k, o, hk => by
   simp only [softAll, Bool.and_eq_true] at h
   obtain ⟨h1, h2⟩ := h
   cases k with
   | zero =>
     simp only [List.getElem?_cons_zero, Option.some.injEq] at hk
     subst hk
     by_cases hj : i0 = j
     . subst hj
       rw [Nat.beq_refl] at h1
       simp only [cond] at h1
       exact ⟨fun _ => by simpa using h1, fun h => (h rfl).elim⟩
     . have hb : Nat.beq i0 j = false := by
         cases hb : Nat.beq i0 j with
         | false => rfl
         | true => exact (hj (Nat.eq_of_beq_eq_true hb)).elim
       rw [hb] at h1
       simp only [cond, Bool.and_eq_true, Bool.or_eq_true] at h1
       refine ⟨fun h => (hj (by simpa using h)).elim, fun _ => ⟨fun hd => ?_, fun hd => ?_⟩⟩
       . rcases h1.1 with h3 | h3
         . simp at h3; exact (h3 hd).elim
         . exact h3
       . have h3 := h1.2
         rw [hd] at h3
         simp [Nat.beq_refl] at h3
   | succ k =>
     simp only [List.getElem?_cons_succ] at hk
     have := softAll_ok r (i0 + 1) h2 k o hk
     rw [show i0 + 1 + k = i0 + (k + 1) by omega] at this
     exact this
theorem infoL_ok {ops : List Oper} : ∀ (l : List Oper) (i0 : Nat) (x : OpI), x ∈ infoL ops l i0 ↔ ∃ k : Nat, l[k]? = some x.o /\ x.i = i0 + k /\ x.am = afterMask x.o /\ x.soft = isSoft ops x.i x.o
 | [], i0, x => by simp [infoL]
 | o :: r, i0, x => by
   simp only [infoL, List.mem_cons, infoL_ok r (i0 + 1) x]
   constructor
   . rintro (rfl | ⟨k, h1, h2, h3, h4⟩)
     . exact ⟨0, rfl, rfl, rfl, rfl⟩
     . exact ⟨k + 1, h1, by omega, h3, h4⟩
   . rintro ⟨k, h1, h2, h3, h4⟩
     cases k with
     | zero =>
       left
       simp only [List.getElem?_cons_zero, Option.some.injEq] at h1
       obtain ⟨xi, xo, xa, xs⟩ := x
       simp only at h1 h2 h3 h4
       subst h1
       rw [h3, h4, h2]
       simp
     | succ k => exact .inr ⟨k, h1, by omega, h3, h4⟩
theorem info_mem {ops : List Oper} {x : OpI} : x ∈ infoL ops ops 0 ↔ ops[x.i]? = some x.o /\ x.am = afterMask x.o /\ x.soft = isSoft ops x.i x.o := by
 rw [infoL_ok]
 constructor
 . rintro ⟨k, h1, h2, h3, h4⟩
   have : x.i = k := by omega
   exact ⟨by rw [this]; exact h1, h3, h4⟩
 . rintro ⟨h1, h2, h3⟩
   exact ⟨x.i, h1, by omega, h2, h3⟩
theorem firstSoft_some : ∀ (I : List OpI) (m : Nat) (x : OpI), firstSoft I m = some x -> x ∈ I /\ x.soft = true /\ x.ready m = true
 | [], _, _, h => by cases h
 | y :: r, m, x, h => by
   simp only [firstSoft] at h
   cases hc : y.soft && y.ready m with
   | true => rw [hc] at h; cases h; rw [Bool.and_eq_true] at hc; exact ⟨List.mem_cons_self, hc.1, hc.2⟩
   | false => rw [hc] at h; obtain ⟨h1, h2⟩ := firstSoft_some r m x h; exact ⟨List.mem_cons_of_mem _ h1, h2⟩
theorem firstSoft_none : ∀ (I : List OpI) (m : Nat), firstSoft I m = none -> ∀ x ∈ I, x.ready m = true -> x.soft = false
 | [], _, _, x, hx, _ => by simp at hx
 | y :: r, m, h, x, hx, hr => by
   simp only [firstSoft] at h
   cases hc : y.soft && y.ready m with
   | true => rw [hc] at h; cases h
   | false =>
     rw [hc] at h
     rcases List.mem_cons.1 hx with rfl | hx
     . rw [hr] at hc; simpa using hc
     . exact firstSoft_none r m h x hx hr
theorem hards_mem : ∀ (I : List OpI) (m : Nat) (x : OpI), x ∈ hards I m ↔ x ∈ I /\ x.ready m = true /\ x.soft = false
 | [], m, x => by simp [hards]
 | y :: r, m, x => by
   simp only [hards]
   cases hc : y.ready m && !y.soft with
   | true =>
     simp only [cond, List.mem_cons, hards_mem r m x]
     rw [Bool.and_eq_true] at hc
     constructor
     . rintro (rfl | ⟨h1, h2⟩)
       . exact ⟨.inl rfl, hc.1, by simpa using hc.2⟩
       . exact ⟨.inr h1, h2⟩
     . rintro ⟨h1 | h1, h2⟩
       . exact .inl h1
       . exact .inr ⟨h1, h2⟩
   | false =>
     simp only [cond, List.mem_cons, hards_mem r m x]
     constructor
     . rintro ⟨h1, h2⟩; exact ⟨.inr h1, h2⟩
     . rintro ⟨rfl | h1, h2, h3⟩
       . rw [h2, h3] at hc; simp at hc
       . exact ⟨h1, h2, h3⟩
theorem loose_mem : ∀ (I : List OpI) (m must : Nat) (x : OpI), x ∈ loose I m must ↔ x ∈ I /\ x.soft = true /\ hasBit m x.i = true /\ hasBit must x.i = false
 | [], m, must, x => by simp [loose]
 | y :: r, m, must, x => by
   simp only [loose]
   cases hc : y.soft && hasBit m y.i && !hasBit must y.i with
   | true =>
     simp only [cond, List.mem_cons, loose_mem r m must x]
     simp only [Bool.and_eq_true, Bool.not_eq_true'] at hc
     constructor
     . rintro (rfl | ⟨h1, h2⟩)
       . exact ⟨.inl rfl, hc.1.1, hc.1.2, hc.2⟩
       . exact ⟨.inr h1, h2⟩
     . rintro ⟨h1 | h1, h2⟩
       . exact .inl h1
       . exact .inr ⟨h1, h2⟩
   | false =>
     simp only [cond, List.mem_cons, loose_mem r m must x]
     constructor
     . rintro ⟨h1, h2⟩; exact ⟨.inr h1, h2⟩
     . rintro ⟨rfl | h1, h2, h3, h4⟩
       . rw [h2, h3, h4] at hc; simp at hc
       . exact ⟨h1, h2, h3, h4⟩
theorem unionAft_ok : ∀ (I : List OpI) (m k : Nat), hasBit (unionAft I m) k = true -> ∃ x ∈ I, hasBit m x.i = true /\ hasBit x.am k = true
 | [], m, k, h => by rw [unionAft, hasBit_zero] at h; cases h
 | y :: r, m, k, h => by
   simp only [unionAft] at h
   cases hc : hasBit m y.i with
   | true =>
     rw [hc] at h
     simp only [cond, hasBit_or, Bool.or_eq_true] at h
     rcases h with h | h
     . exact ⟨y, List.mem_cons_self, hc, h⟩
     . obtain ⟨x, h1, h2⟩ := unionAft_ok r m k h; exact ⟨x, List.mem_cons_of_mem _ h1, h2⟩
   | false =>
     rw [hc] at h
     obtain ⟨x, h1, h2⟩ := unionAft_ok r m k h; exact ⟨x, List.mem_cons_of_mem _ h1, h2⟩
theorem closure_ok {I : List OpI} {L : Nat -> Prop} (hc : ∀ x ∈ I, L x.i -> ∀ k, hasBit x.am k = true -> L k) : ∀ (n m : Nat), (∀ k, hasBit m k = true -> L k) -> ∀ k, hasBit (closure I n m) k = true -> L k
 | 0, m, h, k, hk => h k hk
 | n + 1, m, h, k, hk => by
   simp only [closure] at hk
   have h2 : ∀ k, hasBit (Nat.lor m (unionAft I m)) k = true -> L k := by
     intro k hk
     rw [hasBit_or, Bool.or_eq_true] at hk
     rcases hk with hk | hk
     . exact h k hk
     . obtain ⟨x, h3, h4, h5⟩ := unionAft_ok I m k hk
       exact hc x h3 (h _ h4) k h5
   cases hb : Nat.beq (Nat.lor m (unionAft I m)) m with
   | true => rw [hb] at hk; exact h k hk
   | false => rw [hb] at hk; exact closure_ok hc n _ h2 k hk
theorem forgetL_get : ∀ (ws : List Tmp) (l : Fr T) (i : Nat) (x : SV T), (St.forget.forgetL ws l).get i = some x -> i ∉ ws /\ l.get i = some x
 | [], l, i, x, h => ⟨by simp, h⟩
 | d :: r, l, i, x, h => by
   obtain ⟨h1, h2⟩ := forgetL_get r _ i x h
   rcases Fr.get_set h2 with ⟨_, h3, _⟩ | ⟨h3, h4⟩
   . cases h3
   . exact ⟨by simp only [List.mem_cons, not_or]; exact ⟨fun h => h3 h.symm, h1⟩, h4⟩
theorem forgetL_len : ∀ (ws : List Tmp) (l : Fr T), (St.forget.forgetL ws l).length = l.length
 | [], l => rfl
 | d :: r, l => by rw [St.forget.forgetL, forgetL_len r]; rfl

theorem put_same_eq {a : Act} {d : Nat} {v : Value} (h : a.tmps[d]? = some v) : a.put (some d) v = a := by
 unfold Act.put
 obtain ⟨t, ds⟩ := a
 simp only at h ⊢
 congr 1
 apply Array.ext'
 rw [Array.toList_setIfInBounds]
 apply List.ext_getElem?
 intro j
 rw [List.getElem?_set]
 split
 . rename_i hj
   subst hj
   split
   . rw [<- h]; simp
   . rename_i hlt
     rw [List.getElem?_eq_none (by omega)]
 . rfl
theorem put_put (a : Act) (d : Option Tmp) (v : Value) : (a.put d v).put d v = a.put d v := by
 cases d with
 | none => rfl
 | some d => simp [Act.put]
theorem put_get_ne (a : Act) (d : Option Tmp) (v : Value) (s : Nat) (h : d ≠ some s) : (a.put d v).tmps[s]? = a.tmps[s]? := put_same a d v s h
theorem put_size (a : Act) (d : Option Tmp) (v : Value) : (a.put d v).tmps.size = a.tmps.size := by cases d <;> simp [Act.put]
theorem put_get_eq (a b : Act) (d : Nat) (v : Value) (h : a.tmps.size = b.tmps.size) : (a.put (some d) v).tmps[d]? = (b.put (some d) v).tmps[d]? := by
 simp only [Act.put, Array.getElem?_setIfInBounds, h]
 simp

theorem checkx_ok {C : Ctx T} (hz : ZOK C) {ops : Array Oper} {S : St T} {k : VCT} {a : Act} {w : World} (hS : FrOK S a (Owns S.H) w) (hH : HOK C S.H w) : ∀ (l : List OpI), (checkx C l S k).den ->
   k.den /\ ∀ x ∈ l, ∃ z, YieldsAt C.P ops w x.o z a /\ a.put x.o.dst z = a
 | [], h => ⟨h, fun x hx => by simp at hx⟩
 | x :: r, h => by
   simp only [checkx] at h
   split at h
   . rename_i d hg hd
     split at h
     . rename_i z hzz
       obtain ⟨y, ⟨hyz, h⟩, hy2, hy3⟩ := stx_ok hz hS hH h
       obtain ⟨h1, h2⟩ := checkx_ok hz (ops := ops) hS hH r h
       refine ⟨h1, fun x' hx' => ?_⟩
       rcases List.mem_cons.1 hx' with rfl | hx'
       . exact ⟨y.toV, .inl ⟨by simp [Region.wanted, hg], .inl hy3⟩, by rw [hd]; exact put_same_eq (by rw [hyz]; exact (hS.get d z hzz).1)⟩
       . exact h2 x' hx'
     . exact h.elim
   . exact h.elim

theorem exec_same {ops : Array Oper} {o : Oper} (hs : ∀ cs b, o.op ≠ .select cs b) {a b : Act} (h : ∀ t ∈ o.looksAt ops, a.tmps[t]? = b.tmps[t]?) :
   execOp a.eval o = execOp b.eval o /\ Region.wanted o (yielded ops a.tmps) = Region.wanted o (yielded ops b.tmps) := by
 constructor
 . refine execOp_congr o hs fun x hx => ?_
   cases x with
   | tmp t =>
     have := h t (List.mem_append_left _ (List.mem_filterMap.2 ⟨.tmp t, by simpa using hx, rfl⟩))
     simp only [Act.eval, Array.getD_eq_getD_getElem?, this]
   | _ => rfl
 . unfold Region.wanted
   cases hg : o.guard with
   | none => rfl
   | some gw =>
     obtain ⟨g, want⟩ := gw
     have : yielded ops a.tmps g = yielded ops b.tmps g := by
       unfold yielded
       cases ht : (ops[g]?).bind (·.dst) with
       | none => rfl
       | some t =>
         have := h t (by simp [Oper.looksAt, hg, ht])
         simp [this]
     simp only [this]

theorem wp_carry {P : Program} {o : Oper} {a b : Act} {w : World} {nx nx' : Act -> World -> Prop} {Q Q' : Exit -> Act -> World -> Prop} (he : execOp a.eval o = execOp b.eval o)
   (hn : ∀ v w', nx (b.put o.dst v) w' -> nx' (a.put o.dst v) w') (hd : ∀ d w', ¬ nx ({ b with defers := d :: b.defers }.put o.dst undef) w') (hQ : ∀ ch w', Q (.panic ch) b w' -> Q' (.panic ch) a w') (hL : LetsOut Q -> LetsOut Q')
   (h : o.wp P b w nx Q) : o.wp P a w nx' Q' := by
 unfold Oper.wp at h ⊢
 rw [he]
 generalize (execOp b.eval o).run P w = r at h ⊢
 cases r with
 | ok n w' =>
   cases n with
   | value v => exact hn v w' h
   | skip => exact hn undef w' h
   | defer d => exact (hd d w' h).elim
   | enter f args =>
     refine Calls.mono h fun e w'' he => ?_
     cases e with
     | returned u => exact hn u w'' he
     | panicked c => exact hQ c w'' he
     | outgrown => exact hL he
   | row row args => exact Rows.mono h fun u w'' he => hn u w'' he
   | _ => exact h.elim
 | halt x w' =>
   cases x with
   | panic u => exact hQ _ _ h
   | _ => exact h.elim

structure Rel2 (C : Ctx T) (ops : List Oper) (S0 : St T) (a0 : Act) (w0 : World) (m must : Nat) (listed : Array Bool) (a ac : Act) (w : World) (S : St T) : Prop where
 size : listed.size = ops.length
 closed : ∀ (j : Nat) (o : Oper), ops[j]? = some o -> listed.getD j false = true -> ∀ e ∈ o.after, Region.binds .any e = true -> listed.getD e.on false = true
 sub : ∀ j, listed.getD j false = true -> hasBit m j = true
 inn : ∀ j, hasBit m j = true -> j < ops.length
 musts : ∀ j, hasBit must j = true -> listed.getD j false = true
 pend : ∀ (j : Nat) (o : Oper), ops[j]? = some o -> hasBit m j = true -> listed.getD j false = false -> isSoft ops j o = true /\ ∃ z, YieldsAt C.P ops.toArray w o z ac /\ ac.put o.dst z = ac
 tsize : a.tmps.size = ac.tmps.size
 tdef : a.defers = ac.defers
 agree : ∀ s, (∀ (j : Nat) (o : Oper), ops[j]? = some o -> hasBit m j = true -> listed.getD j false = false -> o.dst ≠ some s) -> a.tmps[s]? = ac.tmps[s]?
 rank : ∃ r : Nat -> Nat, ∀ (j : Nat) (o : Oper), ops[j]? = some o -> hasBit m j = true -> ∀ e ∈ o.after, Region.binds .any e = true -> hasBit m e.on = true /\ r e.on < r j
 lead : Lead C (dsts ops) S0 S a0 ac w0 w

theorem soft_spec {ops : List Oper} {j : Nat} {o : Oper} (h : isSoft ops j o = true) : isStill o.op = true /\ ∃ d, o.dst = some d /\ ∀ (k : Nat) (o' : Oper), ops[k]? = some o' ->
   (k = j -> d ∉ looks ops o') /\ (k ≠ j -> (d ∈ looks ops o' -> hasBit (afterMask o') j = true) /\ o'.dst ≠ some d) := by
 unfold isSoft at h
 rw [Bool.and_eq_true] at h
 refine ⟨h.1, ?_⟩
 have h2 := h.2
 cases hd : o.dst with
 | none => rw [hd] at h2; cases h2
 | some d =>
   rw [hd] at h2
   refine ⟨d, rfl, fun k o' hk => ?_⟩
   have := softAll_ok ops 0 h2 k o' hk
   simpa using this

theorem getD_listed {listed : Array Bool} {j n : Nat} (hs : listed.size = n) (hj : j < n) : listed.getD j true = listed.getD j false := by
 simp [hs, hj]
theorem getD_set_listed {listed : Array Bool} {i j n : Nat} (hs : listed.size = n) (hi : i < n) : (listed.setIfInBounds i true).getD j false = (listed.getD j false || decide (i = j)) := by
 by_cases hij : i = j
 . subst hij; simp [hs, hi]
 . simp [hij, Array.getElem?_setIfInBounds_ne hij]
theorem rank_add {ops : List Oper} {m i : Nat} {o : Oper} (ho : ops[i]? = some o) (hm : hasBit m i = false) (hr : ∀ e ∈ o.after, Region.binds .any e = true -> hasBit m e.on = true)
   (h : ∃ r : Nat -> Nat, ∀ (j : Nat) (o : Oper), ops[j]? = some o -> hasBit m j = true -> ∀ e ∈ o.after, Region.binds .any e = true -> hasBit m e.on = true /\ r e.on < r j) :
   ∃ r : Nat -> Nat, ∀ (j : Nat) (o : Oper), ops[j]? = some o -> hasBit (Nat.lor m (bitOf i)) j = true -> ∀ e ∈ o.after, Region.binds .any e = true -> hasBit (Nat.lor m (bitOf i)) e.on = true /\ r e.on < r j := by
 obtain ⟨r, hr2⟩ := h
 have hsum : ∀ (l : List Edge), ∃ N, ∀ e ∈ l, r e.on < N := by
   intro l
   induction l with
   | nil => exact ⟨0, by simp⟩
   | cons e l ih => obtain ⟨N, hN⟩ := ih; exact ⟨max N (r e.on + 1), fun e' he' => by rcases List.mem_cons.1 he' with rfl | h; omega; have := hN e' h; omega⟩
 obtain ⟨N, hN⟩ := hsum o.after.toList
 refine ⟨fun k => if k = i then N else r k, fun j o' hj hb e he hbe => ?_⟩
 rw [hasBit_lor, Bool.or_eq_true, decide_eq_true_eq] at hb
 by_cases hji : j = i
 . subst hji
   rw [ho] at hj; cases hj
   have h1 := hr e he hbe
   refine ⟨by rw [hasBit_lor, h1]; rfl, ?_⟩
   have hne : e.on ≠ j := fun h => by rw [h, hm] at h1; cases h1
   simp only [if_neg hne, if_true]
   exact hN e (by simpa using he)
 . have hb' := hb.resolve_right (fun h => hji h.symm)
   obtain ⟨h1, h2⟩ := hr2 j o' hj hb' e he hbe
   have hne : e.on ≠ i := fun h => by rw [h, hm] at h1; cases h1
   exact ⟨by rw [hasBit_lor, h1]; rfl, by simp only [if_neg hne, if_neg hji]; exact h2⟩

theorem mem_dsts {ops : List Oper} {j : Nat} {o : Oper} {d : Nat} (h : ops[j]? = some o) (hd : o.dst = some d) : d ∈ dsts ops := List.mem_filterMap.2 ⟨o, List.mem_of_getElem? h, hd⟩
theorem not_select {ops : List Oper} (hs : noSel ops = true) {j : Nat} {o : Oper} (h : ops[j]? = some o) : ∀ cs b, o.op ≠ .select cs b := by
 intro cs b hc
 have := List.all_eq_true.1 (show (ops.all fun o => _) = true from hs) o (List.mem_of_getElem? h)
 simp [hc] at this

theorem lead_more {C : Ctx T} {ops : List Oper} {S0 S S' : St T} {a0 a a' : Act} {w0 w w' : World} {j : Nat} {o : Oper} (ho : ops[j]? = some o) (h : Lead C (dsts ops) S0 S a0 a w0 w) (k : Lead C o.dst.toList S S' a a' w w') : Lead C (dsts ops) S0 S' a0 a' w0 w' :=
 (h.trans k).mono fun i hi => by
   rcases List.mem_append.1 hi with h1 | h1
   . exact h1
   . exact mem_dsts ho (by simpa [Option.mem_toList] using h1)
theorem lead_nil {C : Ctx T} {ops : List Oper} {S0 S S' : St T} {a0 a a' : Act} {w0 w w' : World} (h : Lead C (dsts ops) S0 S a0 a w0 w) (k : Lead C [] S S' a a' w w') : Lead C (dsts ops) S0 S' a0 a' w0 w' :=
 (h.trans k).mono fun i hi => by simpa using hi

section
variable {C : Ctx T} (hz : ZOK C) {sp : Nat -> Option (PT T)} (hsp : ∀ f pt, sp f = some pt -> SpecOK C f pt) {ops : List Oper} (hsel : noSel ops = true) {K : St T -> VCT} {pan : SV T -> St T -> VCT} {S0 : St T} {a0 : Act} {w0 : World}

include hz hsel in
theorem expl_soft : ∀ (f m must : Nat) (S : St T) (listed : Array Bool) (a ac : Act) (w : World), Rel2 C ops S0 a0 w0 m must listed a ac w S -> (expl C sp ops (infoL ops ops 0) K pan f m must S).den ->
   ∃ f' m' S' ac', Rel2 C ops S0 a0 w0 m' must listed a ac' w S' /\ firstSoft (infoL ops ops 0) m' = none /\ (expl C sp ops (infoL ops ops 0) K pan (f' + 1) m' must S').den
 | 0, m, must, S, listed, a, ac, w, hR, h => h.elim
 | f + 1, m, must, S, listed, a, ac, w, hR, h => by
   cases hx : firstSoft (infoL ops ops 0) m with
   | none => exact ⟨f, m, S, ac, hR, hx, h⟩
   | some x =>
     simp only [expl, hx] at h
     obtain ⟨h1, h2, h3⟩ := firstSoft_some _ _ _ hx
     obtain ⟨ho, ham, hso⟩ := info_mem.1 h1
     rw [h2] at hso
     obtain ⟨hst, d, hd, hspec⟩ := soft_spec hso.symm
     unfold OpI.ready at h3
     have hmi : hasBit m x.i = false := by cases hb : hasBit m x.i with | false => rfl | true => rw [hb] at h3; cases h3
     rw [hmi] at h3
     simp only [cond] at h3
     rw [mask_sub, ham] at h3
     have haft : ∀ e ∈ x.o.after, Region.binds .any e = true -> hasBit m e.on = true := fun e he hb => h3 _ ((afterMask_ok _ _).2 ⟨e, he, hb, rfl⟩)
     have hlt : x.i < ops.length := by
       rcases Nat.lt_or_ge x.i ops.length with h0 | h0
       . exact h0
       . rw [List.getElem?_eq_none h0] at ho; cases ho
     have hnl : listed.getD x.i false = false := by
       cases hb : listed.getD x.i false with
       | false => rfl
       | true => have := hR.sub _ hb; rw [hmi] at this; cases this
     -- the step
     have step : ∀ (S' : St T) (v : Value), YieldsAt C.P ops.toArray w x.o v ac -> Lead C (dsts ops) S0 S' a0 (ac.put x.o.dst v) w0 w -> Rel2 C ops S0 a0 w0 (Nat.lor m (bitOf x.i)) must listed a (ac.put x.o.dst v) w S' := by
       intro S' v hy hl
       have hself : ∀ d', x.o.dst = some d' -> d' ∉ x.o.looksAt ops.toArray := by
         intro d' hd'
         rw [hd] at hd'; cases hd'
         exact (hspec x.i x.o ho).1 rfl
       have hno : ∀ (j : Nat) (o : Oper), ops[j]? = some o -> j ≠ x.i -> hasBit m j = true -> ∀ d', x.o.dst = some d' -> d' ∉ o.looksAt ops.toArray := by
         intro j o hj hne hmj d' hd' hlook
         rw [hd] at hd'; cases hd'
         have h5 := ((hspec j o hj).2 hne).1 hlook
         obtain ⟨e, he, hbe, heq⟩ := (afterMask_ok _ _).1 h5
         obtain ⟨r, hr⟩ := hR.rank
         have := (hr j o hj hmj e he hbe).1
         rw [heq, hmi] at this
         cases this
       refine ⟨hR.size, hR.closed, fun j hj => by rw [hasBit_lor, hR.sub j hj]; rfl, fun j hj => ?_, hR.musts, fun j o hj hmj hlj => ?_, by rw [put_size]; exact hR.tsize, by rw [put_defers]; exact hR.tdef, fun s hs => ?_, rank_add ho hmi haft hR.rank, hl⟩
       . rw [hasBit_lor, Bool.or_eq_true, decide_eq_true_eq] at hj
         rcases hj with hj | rfl
         . exact hR.inn j hj
         . exact hlt
       . rw [hasBit_lor, Bool.or_eq_true, decide_eq_true_eq] at hmj
         by_cases hji : j = x.i
         . subst hji
           rw [ho] at hj; cases hj
           exact ⟨hso.symm, v, hy.of_same (execOp_put x.o (not_select hsel ho) ac x.o.dst v hself) (wanted_put x.o ac x.o.dst v hself), put_put _ _ _⟩
         . have hmj' := hmj.resolve_right (fun h => hji h.symm)
           obtain ⟨g1, z, g2, g3⟩ := hR.pend j o hj hmj' hlj
           refine ⟨g1, z, g2.of_same (execOp_put o (not_select hsel hj) ac x.o.dst v (hno j o hj hji hmj')) (wanted_put o ac x.o.dst v (hno j o hj hji hmj')), ?_⟩
           rw [Act.put_comm ac v z (fun d' hd' => by rw [hd] at hd'; cases hd'; exact ((hspec j o hj).2 hji).2), g3]
       . have hsd : x.o.dst ≠ some s := hs x.i x.o ho (by rw [hasBit_lor]; simp) hnl
         rw [put_get_ne _ _ _ _ hsd]
         exact hR.agree s fun j o hj hmj hlj => hs j o hj (by rw [hasBit_lor, hmj]; rfl) hlj
     rcases guardx_ok (ops := ops) hR.lead.fr hR.lead.H h with ⟨S1, hw, h, hl⟩ | ⟨S1, hw, h, hl⟩
     . rw [forceF_eq] at h
       obtain ⟨y, hy1, hy2, hy3⟩ := stx_ok hz hl.fr hl.H h
       simp only [forceF_eq] at hy1
       have hld : Leads C S1 (S1.set x.o.dst y) x.o ac (ac.put x.o.dst y.toV) w w := leads_put hl.fr (S1 := S1) rfl hl.H (Stp.refl _ _) hy2
       exact expl_soft f _ must _ listed a _ w (step _ y.toV (.inl ⟨hw, .inl hy3⟩) (lead_more ho (lead_nil hR.lead hl) (leads_lead hld))) hy1
     . rw [forceF_eq] at h
       exact expl_soft f _ must _ listed a _ w (step _ undef (.inr ⟨hw, rfl⟩) (lead_more ho hR.lead hl)) h

theorem hardAll_mem {run : OpI -> VCT} : ∀ (l : List OpI), (hardAll run l).den -> ∀ x ∈ l, (run x).den
 | [], _, x, hx => by simp at hx
 | [y], h, x, hx => by simp at hx; subst hx; exact h
 | y :: z :: r, h, x, hx => by
   rcases List.mem_cons.1 hx with rfl | hx
   . exact h.1
   . exact hardAll_mem (z :: r) h.2 x hx

theorem rel_done {m must : Nat} {listed : Array Bool} {a ac : Act} {w : World} {S : St T} (hR : Rel2 C ops S0 a0 w0 m must listed a ac w S) (hr : Region.ready .any ops.toArray listed = []) :
   (∀ j, hasBit m j = true -> listed.getD j false = true) /\ a = ac := by
 have all : ∀ j, hasBit m j = true -> listed.getD j false = true := by
   obtain ⟨r, hrk⟩ := hR.rank
   have key : ∀ (n j : Nat), r j < n -> hasBit m j = true -> listed.getD j false = true := by
     intro n
     induction n with
     | zero => intro j h; omega
     | succ n ih =>
       intro j hlt hmj
       cases hl : listed.getD j false with
       | true => rfl
       | false =>
         have hj := hR.inn j hmj
         have ho : ops[j]? = some ops[j] := List.getElem?_eq_getElem hj
         have : j ∈ Region.ready .any ops.toArray listed := by
           rw [mem_ready]
           refine ⟨by rw [getD_listed hR.size hj]; exact hl, ops[j], by simp, fun e he hb => ?_⟩
           obtain ⟨h1, h2⟩ := hrk j _ ho hmj e he hb
           exact ih e.on (by omega) h1
         rw [hr] at this
         simp at this
   exact fun j hj => key (r j + 1) j (by omega) hj
 refine ⟨all, ?_⟩
 have ht : a.tmps = ac.tmps := by
   apply Array.ext'
   apply List.ext_getElem?
   intro s
   have := hR.agree s fun j o hj hmj hlj => by rw [all j hmj] at hlj; cases hlj
   simpa using this
 have hd := hR.tdef
 obtain ⟨t1, d1⟩ := a
 obtain ⟨t2, d2⟩ := ac
 simp only at ht hd
 subst ht hd
 rfl

include hz hsp hsel in
theorem expl_ok {Q : Exit -> Act -> World -> Prop} (h1 : ∀ S' a' w', (K S').den -> Lead C (dsts ops) S0 S' a0 a' w0 w' -> Q .normal a' w')
   (h2 : ∀ x S' a' w', (pan x S').den -> x.valid (Owns S'.H) w' -> Lead C (dsts ops) S0 S' a0 a' w0 w' -> Q (.panic [{ v := x.toV, recovered := false }]) a' w') :
   ∀ (n f m must : Nat) (S : St T) (listed : Array Bool) (a ac : Act) (w : World), Rel2 C ops S0 a0 w0 m must listed a ac w S -> (expl C sp ops (infoL ops ops 0) K pan f m must S).den ->
     (listed.toList.filter (· == false)).length <= n -> wpAny C.P .any ops.toArray Q n listed a w := by
 intro n
 induction n with
 | zero =>
   intro f m must S listed a ac w hR h hcnt
   have hall : ∀ j, j < ops.length -> listed.getD j false = true := by
     intro j hj
     cases hl : listed.getD j false with
     | true => rfl
     | false =>
       have hlt : j < listed.size := by rw [hR.size]; exact hj
       have : false ∈ listed.toList.filter (· == false) := by
         rw [List.mem_filter]
         refine ⟨?_, rfl⟩
         have h3 : listed[j]? = some false := by
           have := hl
           rw [Array.getD_eq_getD_getElem?, Array.getElem?_eq_getElem hlt] at this
           rw [Array.getElem?_eq_getElem hlt]
           simpa using this
         exact Array.mem_toList_iff.2 (Array.mem_of_getElem? h3)
       have := List.length_pos_of_mem this
       omega
   have hr : Region.ready .any ops.toArray listed = [] := by
     apply List.eq_nil_iff_forall_not_mem.2
     intro j hj
     obtain ⟨g1, o, g2, _⟩ := mem_ready.1 hj
     have hj' : j < ops.length := by
       rcases Nat.lt_or_ge j ops.length with h0 | h0
       . exact h0
       . rw [Array.getElem?_eq_none (by simpa using h0)] at g2; cases g2
     rw [getD_listed hR.size hj', hall j hj'] at g1
     cases g1
   obtain ⟨f', m', S', ac', hR', hs, h⟩ := expl_soft hz hsel f m must S listed a ac w hR h
   obtain ⟨g1, rfl⟩ := rel_done hR' hr
   refine ⟨hr, ?_⟩
   simp only [expl, hs] at h
   split at h
   . exact h1 _ _ _ h hR'.lead
   . rename_i l hl
     exfalso
     obtain ⟨x, hx⟩ := List.exists_mem_of_ne_nil _ hl
     rw [hards_mem] at hx
     obtain ⟨k1, k2, k3⟩ := hx
     have ho := (info_mem.1 k1).1
     have hlt : x.i < ops.length := by
       rcases Nat.lt_or_ge x.i ops.length with h0 | h0
       . exact h0
       . rw [List.getElem?_eq_none h0] at ho; cases ho
     unfold OpI.ready at k2
     rw [hR'.sub _ (hall x.i hlt)] at k2
     cases k2
 | succ n ih =>
   intro f m must S listed a ac w hR h hcnt
   obtain ⟨f', m, S, ac, hR, hs, h⟩ := expl_soft hz hsel f m must S listed a ac w hR h
   simp only [expl, hs] at h
   -- an operation that is ready in the drawn order, and not listed in the conditions' order
   have newc : ∀ (i : Nat) (o : Oper), ops[i]? = some o -> (∀ e ∈ o.after, Region.binds .any e = true -> listed.getD e.on false = true) -> hasBit m i = false -> ∃ x ∈ hards (infoL ops ops 0) m, x.i = i /\ x.o = o /\ x.am = afterMask o := by
     intro i o ho haft hmi
     have hx : (⟨i, o, afterMask o, isSoft ops i o⟩ : OpI) ∈ infoL ops ops 0 := info_mem.2 ⟨ho, rfl, rfl⟩
     have hready : OpI.ready ⟨i, o, afterMask o, isSoft ops i o⟩ m = true := by
       unfold OpI.ready
       simp only [hmi, cond]
       rw [mask_sub]
       intro k hk
       obtain ⟨e, he, hb, rfl⟩ := (afterMask_ok _ _).1 hk
       exact hR.sub _ (haft e he hb)
     exact ⟨_, (hards_mem _ _ _).2 ⟨hx, hready, firstSoft_none _ _ hs _ hx hready⟩, rfl, rfl, rfl⟩
   refine ⟨fun hr => ?_, fun i hi => ?_⟩
   . obtain ⟨g1, rfl⟩ := rel_done hR hr
     split at h
     . exact h1 _ _ _ h hR.lead
     . rename_i l hl
       exfalso
       obtain ⟨x, hx⟩ := List.exists_mem_of_ne_nil _ hl
       rw [hards_mem] at hx
       obtain ⟨k1, k2, k3⟩ := hx
       obtain ⟨ho, ham, _⟩ := info_mem.1 k1
       have hlt : x.i < ops.length := by
         rcases Nat.lt_or_ge x.i ops.length with h0 | h0
         . exact h0
         . rw [List.getElem?_eq_none h0] at ho; cases ho
       unfold OpI.ready at k2
       have hmi : hasBit m x.i = false := by cases hb : hasBit m x.i with | false => rfl | true => rw [hb] at k2; cases k2
       rw [hmi] at k2
       simp only [cond] at k2
       rw [mask_sub, ham] at k2
       have : x.i ∈ Region.ready .any ops.toArray listed := by
         rw [mem_ready]
         refine ⟨?_, x.o, by simpa using ho, fun e he hb => g1 _ (k2 _ ((afterMask_ok _ _).2 ⟨e, he, hb, rfl⟩))⟩
         rw [getD_listed hR.size hlt]
         cases hb : listed.getD x.i false with
         | false => rfl
         | true => have := hR.sub _ hb; rw [hmi] at this; cases this
       rw [hr] at this
       simp at this
   . obtain ⟨hun, o, ho, haft⟩ := mem_ready.1 hi
     have ho : ops[i]? = some o := by simpa using ho
     have hlt : i < ops.length := by
       rcases Nat.lt_or_ge i ops.length with h0 | h0
       . exact h0
       . rw [List.getElem?_eq_none h0] at ho; cases ho
     have hli : listed.getD i false = false := by rw [<- getD_listed hR.size hlt]; exact hun
     have hcnt' : ((listed.setIfInBounds i true).toList.filter (· == false)).length <= n := by
       have hil : i < listed.toList.length := by simpa [hR.size] using hlt
       have hget : listed.toList[i] = false := by
         have := hli
         rw [Array.getD_eq_getD_getElem?, Array.getElem?_eq_getElem (by simpa using hil)] at this
         simpa using this
       rw [Array.toList_setIfInBounds]
       have key : ∀ (l : List Bool) (i : Nat) (h : i < l.length), l[i] = false -> ((l.set i true).filter (· == false)).length + 1 = (l.filter (· == false)).length := by
         intro l
         induction l with
         | nil => intro i h; simp at h
         | cons b r ihl =>
           intro i h hb
           cases i with
           | zero => simp only [List.getElem_cons_zero] at hb; subst hb; simp
           | succ i =>
             simp only [List.getElem_cons_succ] at hb
             have := ihl i (by simpa using h) hb
             cases b
             . simp only [List.set_cons_succ, List.filter_cons, beq_self_eq_true, if_true, List.length_cons]; omega
             . simpa using this
       have := key listed.toList i hil hget
       omega
     -- what the drawn operation looks at is as in the conditions
     have look : ∀ t ∈ o.looksAt ops.toArray, a.tmps[t]? = ac.tmps[t]? := by
       intro t ht
       refine hR.agree t fun j o' hj hmj hlj hd => ?_
       obtain ⟨g1, _⟩ := hR.pend j o' hj hmj hlj
       obtain ⟨_, d, hd', hspec⟩ := soft_spec g1
       rw [hd] at hd'; cases hd'
       by_cases hij : i = j
       . subst hij
         exact (hspec i o ho).1 rfl ht
       . have h5 := ((hspec i o ho).2 hij).1 ht
         obtain ⟨e, he, hb, heq⟩ := (afterMask_ok _ _).1 h5
         have := haft e he hb
         rw [heq, hlj] at this
         cases this
     obtain ⟨hex, hwant⟩ := exec_same (not_select hsel ho) look
     have hclosed : ∀ (j : Nat) (o' : Oper), ops[j]? = some o' -> (listed.setIfInBounds i true).getD j false = true -> ∀ e ∈ o'.after, Region.binds .any e = true -> (listed.setIfInBounds i true).getD e.on false = true := by
       intro j o' hj hl e he hb
       rw [getD_set_listed hR.size hlt, Bool.or_eq_true, decide_eq_true_eq] at hl
       rw [getD_set_listed hR.size hlt, Bool.or_eq_true]
       rcases hl with hl | rfl
       . exact .inl (hR.closed j o' hj hl e he hb)
       . rw [ho] at hj; cases hj
         exact .inl (haft e he hb)
     cases hmi : hasBit m i with
     | true =>
       -- it is outstanding
       obtain ⟨g1, z, g2, g3⟩ := hR.pend i o ho hmi hli
       obtain ⟨_, d, hd, hspec⟩ := soft_spec g1
       have hy : YieldsAt C.P ops.toArray w o z a := g2.of_same hex hwant
       have hR' : Rel2 C ops S0 a0 w0 m must (listed.setIfInBounds i true) (a.put o.dst z) ac w S := by
         refine ⟨by simp [hR.size], hclosed, fun j hj => ?_, hR.inn, fun j hj => by rw [getD_set_listed hR.size hlt, hR.musts j hj]; rfl, fun j o' hj hmj hlj => ?_, by rw [put_size]; exact hR.tsize, by rw [put_defers]; exact hR.tdef, fun s hs => ?_, hR.rank, hR.lead⟩
         . rw [getD_set_listed hR.size hlt, Bool.or_eq_true, decide_eq_true_eq] at hj
           rcases hj with hj | rfl
           . exact hR.sub j hj
           . exact hmi
         . rw [getD_set_listed hR.size hlt] at hlj
           exact hR.pend j o' hj hmj (by cases hb : listed.getD j false with | false => rfl | true => rw [hb] at hlj; cases hlj)
         . by_cases hsd : o.dst = some s
           . rw [hsd]
             rw [put_get_eq a ac s z hR.tsize, <- hsd, g3]
           . rw [put_get_ne _ _ _ _ hsd]
             refine hR.agree s fun j o' hj hmj hlj => ?_
             by_cases hji : i = j
             . subst hji; rw [ho] at hj; cases hj; exact hsd
             . exact hs j o' hj hmj (by rw [getD_set_listed hR.size hlt, hlj]; simp [hji])
       have hst := hy.stOp (ops := ops.toArray) (i := i) (by simpa using ho) (K := fun a' => a' = a.put o.dst z) rfl
       refine wpOp_of_stOp (fun a' ha' => ?_) hst
       subst ha'
       exact ih (f' + 1) m must S _ _ ac w hR' (by simp only [expl, hs]; exact h) hcnt'
     | false =>
       obtain ⟨x, hx, hxi, hxo, hxa⟩ := newc i o ho haft hmi
       have h := (by
         split at h
         . rename_i hl; rw [hl] at hx; simp at hx
         . exact hardAll_mem _ h x hx : (_ : VCT).den)
       simp only [hxi, hxo] at h
       -- the conditions' next state
       have hmust : ∀ k, hasBit (Nat.lor must (closure (infoL ops ops 0) ops.length (bitOf i))) k = true -> (listed.setIfInBounds i true).getD k false = true := by
         intro k hk
         rw [hasBit_or, Bool.or_eq_true] at hk
         rcases hk with hk | hk
         . rw [getD_set_listed hR.size hlt, hR.musts k hk]; rfl
         . refine closure_ok (L := fun k => (listed.setIfInBounds i true).getD k false = true) (fun x' hx' hl k hk => ?_) _ _ (fun k hk => ?_) k hk
           . obtain ⟨q1, q2, _⟩ := info_mem.1 hx'
             rw [q2] at hk
             obtain ⟨e, he, hb, rfl⟩ := (afterMask_ok _ _).1 hk
             exact hclosed x'.i x'.o q1 hl e he hb
           . rw [hasBit_bit, decide_eq_true_eq] at hk
             subst hk
             rw [getD_set_listed hR.size hlt]; simp
       have next : ∀ (S' : St T) (v : Value) (w' : World), Lead C o.dst.toList S S' ac (ac.put o.dst v) w w' -> (∀ x' ∈ loose (infoL ops ops 0) m (Nat.lor must (closure (infoL ops ops 0) ops.length (bitOf i))), ∃ z, YieldsAt C.P ops.toArray w' x'.o z (ac.put o.dst v) /\ (ac.put o.dst v).put x'.o.dst z = ac.put o.dst v) ->
           Rel2 C ops S0 a0 w0 (Nat.lor m (bitOf i)) (Nat.lor must (closure (infoL ops ops 0) ops.length (bitOf i))) (listed.setIfInBounds i true) (a.put o.dst v) (ac.put o.dst v) w' S' := by
         intro S' v w' hl hchk
         refine ⟨by simp [hR.size], hclosed, fun j hj => ?_, fun j hj => ?_, hmust, fun j o' hj hmj hlj => ?_, by rw [put_size, put_size]; exact hR.tsize, by rw [put_defers, put_defers]; exact hR.tdef, fun s hs => ?_, rank_add ho hmi (fun e he hb => hR.sub _ (haft e he hb)) hR.rank, lead_more ho hR.lead hl⟩
         . rw [getD_set_listed hR.size hlt, Bool.or_eq_true, decide_eq_true_eq] at hj
           rw [hasBit_lor, Bool.or_eq_true, decide_eq_true_eq]
           exact hj.imp (hR.sub j) id
         . rw [hasBit_lor, Bool.or_eq_true, decide_eq_true_eq] at hj
           rcases hj with hj | rfl
           . exact hR.inn j hj
           . exact hlt
         . rw [getD_set_listed hR.size hlt, Bool.or_eq_false_iff, decide_eq_false_iff_not] at hlj
           rw [hasBit_lor, Bool.or_eq_true, decide_eq_true_eq] at hmj
           have hmj' := hmj.resolve_right hlj.2
           obtain ⟨g1, _⟩ := hR.pend j o' hj hmj' hlj.1
           have hlo : (⟨j, o', afterMask o', isSoft ops j o'⟩ : OpI) ∈ loose (infoL ops ops 0) m (Nat.lor must (closure (infoL ops ops 0) ops.length (bitOf i))) := by
             rw [loose_mem]
             refine ⟨info_mem.2 ⟨hj, rfl, rfl⟩, g1, hmj', ?_⟩
             cases hb : hasBit (Nat.lor must (closure (infoL ops ops 0) ops.length (bitOf i))) j with
             | false => rfl
             | true =>
               have := hmust j hb
               rw [getD_set_listed hR.size hlt, hlj.1] at this
               simp [hlj.2] at this
           obtain ⟨z, z1, z2⟩ := hchk _ hlo
           exact ⟨g1, z, z1, z2⟩
         . by_cases hsd : o.dst = some s
           . rw [hsd]; exact put_get_eq a ac s v hR.tsize
           . rw [put_get_ne _ _ _ _ hsd, put_get_ne _ _ _ _ hsd]
             refine hR.agree s fun j o' hj hmj hlj => hs j o' hj (by rw [hasBit_lor, hmj]; rfl) ?_
             rw [getD_set_listed hR.size hlt, hlj]
             simp
             intro hij
             subst hij
             rw [hmi] at hmj; cases hmj
       unfold wpOp
       rw [show ops.toArray[i]? = some o by simpa using ho]
       simp only
       rcases guardx_ok (ops := ops) hR.lead.fr hR.lead.H h with ⟨S1, hw, h, hl⟩ | ⟨S1, hw, h, hl⟩
       . rw [if_pos (by rw [hwant]; exact hw)]
         rw [forceF_eq] at h
         left
         have hg := opx_ok hz hsp hl.fr hl.H h
           (fun a' w' => ∃ S', (checkx C (loose (infoL ops ops 0) m (Nat.lor must (closure (infoL ops ops 0) ops.length (bitOf i)))) S' (expl C sp ops (infoL ops ops 0) K pan f' (Nat.lor m (bitOf i)) (Nat.lor must (closure (infoL ops ops 0) ops.length (bitOf i))) S')).den /\ Leads C S1 S' o ac a' w w')
           (fun e b' w' => ∃ x S', e = .panic [{ v := x.toV, recovered := false }] /\ b' = ac /\ (pan x (S'.forget (loose (infoL ops ops 0) m (Nat.lor must (closure (infoL ops ops 0) ops.length (bitOf i)))))).den /\ x.valid (Owns S'.H) w' /\ FrOK S' ac (Owns S'.H) w' /\ HOK C S'.H w' /\ Stp (Owns S1.H) (Owns S'.H) w w')
           (fun S' a' w' hn hld => ⟨S', by simpa only [forceF_eq, forceM_eq] using hn, hld⟩)
           (fun x S' w' hp hx hf hH' hst => ⟨x, S', rfl, rfl, hp, hx, hf, hH', hst⟩)
         refine wp_carry hex (fun v w' hnx => ?_) (fun d w' hnx => ?_) (fun ch w' hq => ?_) (fun hL => ?_) hg
         . obtain ⟨S', hn, hld⟩ := hnx
           obtain ⟨k1, k2⟩ := checkx_ok hz (ops := ops.toArray) hld.fr hld.H _ hn
           exact ih f' _ _ S' _ _ _ w' (next S' v w' ((hl.trans (leads_lead hld)).mono (by simp)) k2) k1 hcnt'
         . obtain ⟨S', hn, hld⟩ := hnx
           have := hld.defers
           rw [put_defers] at this
           have := congrArg List.length this
           simp at this
         . obtain ⟨x', S', he, _, hp, hx', hf, hH', hst⟩ := hq
           rw [he]
           have hl2 : Lead C (dsts ops) S0 S' a0 ac w0 w' := lead_nil hR.lead ((hl.trans (ws' := []) ⟨hf, hH', hst, rfl, fun _ _ => rfl, by rw [<- hf.size, hl.fr.size]⟩).mono (fun i hi => by simp at hi))
           refine h2 x' _ a w' hp hx' ⟨⟨?_, fun s y hy => ?_⟩, hl2.H, hl2.stp, by rw [hR.tdef]; exact hl2.defers, fun s hs => ?_, ?_⟩
           . rw [hR.tsize, hl2.fr.size]; exact (forgetL_len _ _).symm
           . obtain ⟨q1, q2⟩ := forgetL_get _ _ s y hy
             obtain ⟨q3, q4⟩ := hl2.fr.get s y q2
             refine ⟨?_, q4⟩
             rw [<- q3]
             refine hR.agree s fun j o' hj hmj hlj hd => q1 ?_
             obtain ⟨g1, _⟩ := hR.pend j o' hj hmj hlj
             have hne : i ≠ j := fun hij => by subst hij; rw [hmi] at hmj; cases hmj
             refine List.mem_filterMap.2 ⟨⟨j, o', afterMask o', isSoft ops j o'⟩, (loose_mem _ _ _ _).2 ⟨info_mem.2 ⟨hj, rfl, rfl⟩, g1, hmj, ?_⟩, hd⟩
             cases hb : hasBit (Nat.lor must (closure (infoL ops ops 0) ops.length (bitOf i))) j with
             | false => rfl
             | true =>
               have := hmust j hb
               rw [getD_set_listed hR.size hlt, hlj] at this
               simp [hne] at this
           . rw [<- hl2.same s hs]
             refine hR.agree s fun j o' hj hmj hlj hd => hs (mem_dsts hj hd)
           . rw [<- hl2.len]; exact forgetL_len _ _
         . obtain ⟨a9, w9, x9, S9, he9, _⟩ := hL
           cases he9
       . rw [if_neg (by rw [hwant, hw]; simp)]
         rw [forceF_eq] at h
         obtain ⟨k1, k2⟩ := checkx_ok hz (ops := ops.toArray) hl.fr hl.H _ h
         exact ih f' _ _ S1 _ _ _ w (next S1 undef w hl k2) k1 hcnt'
end

theorem rel_start {C : Ctx T} {ops : List Oper} {S : St T} {a : Act} {w : World} (hl : Lead C (dsts ops) S S a a w w) : Rel2 C ops S a w 0 0 (Array.replicate ops.length false) a a w S := by
 have no : ∀ {P : Prop} (j : Nat), hasBit 0 j = true -> P := fun j hj => by rw [hasBit_zero] at hj; cases hj
 refine ⟨by simp, fun j o _ hl => ?_, fun j hj => ?_, fun j hj => no j hj, fun j hj => no j hj, fun j o _ hm => no j hm, rfl, rfl, fun _ _ => rfl, ⟨fun _ => 0, fun j o _ hm => no j hm⟩, hl⟩
 . rw [getD_replicate_false] at hl; cases hl
 . rw [getD_replicate_false] at hj; cases hj

theorem regx_ok {C : Ctx T} (hz : ZOK C) {sp : Nat -> Option (PT T)} (hsp : ∀ f pt, sp f = some pt -> SpecOK C f pt) (hm : C.P.follows .mixedOrders = true) {id : Nat} {ops : List Oper} {draw : Bool} {S : St T} {K : St T -> VCT} {pan : SV T -> St T -> VCT} {a : Act} {w : World}
   (hlex : draw = true -> lexR ops = true) (hS : FrOK S a (Owns S.H) w) (hH : HOK C S.H w) (h : (regx C sp ops draw S K pan).den) (Q : Exit -> Act -> World -> Prop)
   (h1 : ∀ S' a' w', (K S').den -> Lead C (dsts ops) S S' a a' w w' -> Q .normal a' w')
   (h2 : ∀ x S' a' w', (pan x S').den -> x.valid (Owns S'.H) w' -> Lead C (dsts ops) S S' a a' w w' -> Q (.panic [{ v := x.toV, recovered := false }]) a' w') : (Code.region id ops.toArray draw).wp C.P Q a w := by
 unfold regx at h
 split at h
 . rename_i hd
   have hd : draw = true := hd
   subst hd
   by_cases hsel : noSel ops = true
   case neg =>
     simp only [Bool.not_eq_true] at hsel
     simp only [hsel, cond] at h
     exact h.elim
   case pos =>
     simp only [hsel, cond] at h
     have hdr := lead_drew hS hH (w.drawn + 1)
     refine wp_region_any hm ?_
     have hl0 : Lead C (dsts ops) S S a a { w with drawn := w.drawn + 1 } { w with drawn := w.drawn + 1 } := Lead.refl _ hdr.fr hdr.H rfl rfl
     have := expl_ok hz hsp hsel (S0 := S) (a0 := a) (w0 := { w with drawn := w.drawn + 1 }) (Q := Q) (fun S' a' w' hk hl => h1 S' a' w' hk (hdr.trans hl)) (fun x S' a' w' hp hx hl => h2 x S' a' w' hp hx (hdr.trans hl)) ops.length _ 0 0 S _ a a _ (rel_start hl0) h (by
       simp)
     simpa using this
 . rename_i hd
   have hd : draw = false := by simpa using hd
   subst hd
   exact wp_region_lit (opsx_ok hz hsp ops S a w hS hH h Q h1 h2)
end Go.Vg
/-
 The generator's soundness, part 13: claims that are met; code.
-/
set_option linter.unusedVariables false
namespace Go.Vg
variable {T : Tys}

/-! ### Matching -/
mutual
theorem mSV_ok : ∀ (x y : SV T) (k : VCT), (mSV x y k).den -> k.den /\ x.toV = y.toV /\ ∀ (I : Nat -> Prop) (w : World), x.valid I w -> y.valid I w
 | .un, y, k, h => by
   cases y <;> first | exact ⟨h, rfl, fun _ _ h => h⟩ | exact h.elim
 | .v x, y, k, h => by
   cases y with
   | v y =>
     unfold mSV at h
     split at h
     . split at h
       . rename_i hi
         subst hi
         obtain ⟨rfl, h⟩ := h
         exact ⟨h, rfl, fun _ _ h => h⟩
       . exact h.elim
     . obtain ⟨rfl, h⟩ := h
       exact ⟨h, rfl, fun _ _ h => h⟩
     . obtain ⟨rfl, h⟩ := h
       exact ⟨h, rfl, fun _ _ h => h⟩
   | w x' n' =>
     obtain ⟨⟨rfl, rfl, rfl⟩, h⟩ : (VCT.fact (x = .slice none 0 0 /\ x = x' /\ n' = 0) k).den := h
     exact ⟨h, rfl, fun _ _ _ => ⟨_, _, rfl⟩⟩
   | ro e' x' l' =>
     obtain ⟨⟨rfl, rfl, rfl⟩, h⟩ : (VCT.fact (x = .slice none 0 0 /\ x = x' /\ l' = []) k).den := h
     exact ⟨h, rfl, fun _ _ _ => roOK_nil _ _ _⟩
   | _ => exact h.elim
 | .p a b o, y, k, h => by
   cases y with
   | p a' b' o' =>
     unfold mSV at h
     split at h
     . obtain ⟨⟨rfl, rfl⟩, h⟩ := h
       exact ⟨h, rfl, fun _ _ _ => trivial⟩
     . exact h.elim
   | _ => exact h.elim
 | .s a b e base lo len cap, y, k, h => by
   cases y with
   | s a' b' e' base' lo' len' cap' =>
     unfold mSV at h
     split at h
     . rename_i he
       obtain ⟨rfl, rfl⟩ := he
       obtain ⟨⟨rfl, rfl, rfl, rfl, rfl⟩, h⟩ := h
       exact ⟨h, rfl, fun _ _ _ => trivial⟩
     . exact h.elim
   | w x' n' =>
     obtain ⟨⟨rfl, rfl⟩, h⟩ : (VCT.fact (.slice (some ⟨b, base + lo * szE T e, none⟩) len cap = x' /\ len = n') k).den := h
     exact ⟨h, rfl, fun _ _ _ => ⟨_, _, rfl⟩⟩
   | _ => exact h.elim
 | .o a e x n, y, k, h => by
   cases y with
   | o a' e' x' n' =>
     unfold mSV at h
     split at h
     . rename_i he
       obtain ⟨rfl, rfl⟩ := he
       obtain ⟨⟨rfl, rfl⟩, h⟩ := h
       exact ⟨h, rfl, fun _ _ h => h⟩
     . exact h.elim
   | ov a' e' x' lo' hi' v' =>
     have h1 : (if a = a' /\ e = e' then VCT.fact (x = x' /\ 0 = lo' /\ n = hi' /\ x = v') k else .ff "match: another entry").den := h
     split at h1
     . rename_i he
       obtain ⟨rfl, rfl⟩ := he
       obtain ⟨⟨rfl, rfl, rfl, rfl⟩, h1⟩ := h1
       refine ⟨h1, rfl, fun _ _ hv => ?_⟩
       obtain ⟨A, cap, rfl⟩ := hv
       refine ⟨A, _, cap, rfl, .inl ?_⟩
       simp only [sliceVal, Nat.sub_zero, Nat.zero_mul]
       congr 1
       cases A with
       | none => simp
       | some ad => split <;> simp [Addr.add]
     . exact h1.elim
   | w x' n' =>
     obtain ⟨⟨rfl, rfl⟩, h⟩ : (VCT.fact (x = x' /\ n = n') k).den := h
     exact ⟨h, rfl, fun _ _ h => h⟩
   | _ => exact h.elim
 | .ov a e x lo hi v, y, k, h => by
   cases y with
   | ov a' e' x' lo' hi' v' =>
     have h1 : (if a = a' /\ e = e' then VCT.fact (x = x' /\ lo = lo' /\ hi = hi' /\ v = v') k else .ff "match: another entry").den := h
     split at h1
     . rename_i he
       obtain ⟨rfl, rfl⟩ := he
       obtain ⟨⟨rfl, rfl, rfl, rfl⟩, h1⟩ := h1
       exact ⟨h1, rfl, fun _ _ h => h⟩
     . exact h1.elim
   | _ => exact h.elim
 | .w x n, y, k, h => by
   cases y with
   | w x' n' =>
     obtain ⟨⟨rfl, rfl⟩, h⟩ : (VCT.fact (x = x' /\ n = n') k).den := h
     exact ⟨h, rfl, fun _ _ h => h⟩
   | _ => exact h.elim
 | .q _ _ _ _ _, y, k, h => by cases y <;> exact h.elim
 | .rq _ _ _ _ _, y, k, h => by cases y <;> exact h.elim
 | .ro e x l, y, k, h => by
   cases y with
   | ro e' x' l' =>
     unfold mSV at h
     split at h
     . rename_i he
       subst he
       obtain ⟨⟨rfl, rfl⟩, h⟩ := h
       exact ⟨h, rfl, fun _ _ h => h⟩
     . exact h.elim
   | w x' n' =>
     obtain ⟨⟨rfl, rfl⟩, h⟩ : (VCT.fact (x = x' /\ l.length = n') k).den := h
     exact ⟨h, rfl, fun _ _ h => by obtain ⟨A, cap, hx, _⟩ := h; exact ⟨A, cap, hx⟩⟩
   | _ => exact h.elim
 | .i t x, y, k, h => by
   cases y with
   | i t' y =>
     unfold mSV at h
     split at h
     . rename_i he
       subst he
       obtain ⟨h1, h2, h3⟩ := mSV_ok x y k h
       exact ⟨h1, by simp only [SV.toV, h2], h3⟩
     . exact h.elim
   | _ => exact h.elim
 | .a xs, y, k, h => by
   cases y with
   | a ys =>
     obtain ⟨h1, h2, h3⟩ := mSegs_ok xs ys k (by simpa only [mSV] using h)
     exact ⟨h1, by simp only [SV.toV, h2], h3⟩
   | _ => exact h.elim
 | .t xs, y, k, h => by
   cases y with
   | t ys =>
     obtain ⟨h1, h2, h3⟩ := mSVL_ok xs ys k (by simpa only [mSV] using h)
     exact ⟨h1, by simp only [SV.toV, h2], h3⟩
   | _ => exact h.elim
 | .f fn a b, y, k, h => by
   cases y with
   | f fn' a' b' =>
     unfold mSV at h
     split at h
     . rename_i he
       subst he
       obtain ⟨h1, h2, h3⟩ := mSVL_ok a a' _ h
       obtain ⟨h1, h4, h5⟩ := mSVL_ok b b' _ h1
       exact ⟨h1, by simp only [SV.toV, h2, h4], fun I w hv => ⟨h3 I w hv.1, h5 I w hv.2⟩⟩
     . exact h.elim
   | _ => exact h.elim
theorem mSVL_ok : ∀ (xs ys : List (SV T)) (k : VCT), (mSVL xs ys k).den -> k.den /\ SV.toVL xs = SV.toVL ys /\ ∀ (I : Nat -> Prop) (w : World), SV.validL I w xs -> SV.validL I w ys
 | [], [], k, h => ⟨h, rfl, fun _ _ h => h⟩
 | [], _ :: _, k, h => h.elim
 | _ :: _, [], k, h => h.elim
 | x :: xs, y :: ys, k, h => by
   obtain ⟨h1, h2, h3⟩ := mSV_ok x y _ h
   obtain ⟨h1, h4, h5⟩ := mSVL_ok xs ys k h1
   exact ⟨h1, by simp only [SV.toVL, h2, h4], fun I w hv => ⟨h3 I w hv.1, h5 I w hv.2⟩⟩
theorem mSegs_ok : ∀ (xs ys : List (Seg T)) (k : VCT), (mSegs xs ys k).den -> k.den /\ Seg.cellsL xs = Seg.cellsL ys /\ ∀ (I : Nat -> Prop) (w : World), Seg.validL I w xs -> Seg.validL I w ys
 | [], [], k, h => ⟨h, rfl, fun _ _ h => h⟩
 | [], .c _ :: _, k, h => h.elim
 | [], .r _ _ _ :: _, k, h => h.elim
 | .c _ :: _, [], k, h => h.elim
 | .r _ _ _ :: _, [], k, h => h.elim
 | .c _ :: _, .r _ _ _ :: _, k, h => h.elim
 | .r _ _ _ :: _, .c _ :: _, k, h => h.elim
 | .c x :: xs, .c y :: ys, k, h => by
   obtain ⟨h1, h2, h3⟩ := mSV_ok x y _ (by simpa only [mSegs] using h)
   obtain ⟨h1, h4, h5⟩ := mSegs_ok xs ys k h1
   exact ⟨h1, by simp only [Seg.cellsL, Seg.cells, h2, h4], fun I w hv => ⟨⟨h3 I w hv.1.1, h2 ▸ hv.1.2⟩, h5 I w hv.2⟩⟩
 | .r e n l :: xs, .r e' n' l' :: ys, k, h => by
   unfold mSegs at h
   split at h
   . rename_i he
     subst he
     obtain ⟨⟨rfl, rfl⟩, h⟩ := h
     obtain ⟨h1, h4, h5⟩ := mSegs_ok xs ys k h
     exact ⟨h1, by simp only [Seg.cellsL, Seg.cells, h4], fun I w hv => ⟨hv.1, h5 I w hv.2⟩⟩
   . exact h.elim
end

theorem mEnt_ok (x y : Ent T) (k : VCT) (h : (mEnt x y k).den) : k.den /\ (∀ (I : Nat -> Prop) (w : World), x.ok I w -> y.ok I w) /\ ∀ j, y.has j -> x.has j := by
 cases y with
 | X => exact ⟨by cases x <;> exact h, fun _ _ _ => trivial, fun _ h => h.elim⟩
 | B b' t' ys =>
   cases x with
   | B b t xs =>
     have h1 : (if t = t' then VCT.fact (b = b') (mSegs xs ys k) else .ff "match: another type").den := h
     split at h1
     . rename_i ht
       subst ht
       obtain ⟨rfl, h1⟩ := h1
       obtain ⟨h1, h2, h3⟩ := mSegs_ok xs ys k h1
       exact ⟨h1, fun I w hx => ⟨h2 ▸ hx.1, h3 I w hx.2⟩, fun _ h => h⟩
     . exact h1.elim
   | _ => exact h.elim
 | O x' e' l' =>
   cases x with
   | O x e l =>
     have h1 : (if h : e' = e then VCT.fact (x = x' /\ l = h ▸ l') k else .ff "match: another type").den := h
     split at h1
     . rename_i ht
       subst ht
       obtain ⟨⟨rfl, rfl⟩, h1⟩ := h1
       exact ⟨h1, fun _ _ h => h, fun _ h => h⟩
     . exact h1.elim
   | _ => exact h.elim
 | F m' =>
   cases x with
   | F m =>
     obtain ⟨rfl, h⟩ : (VCT.fact (m = m') k).den := h
     exact ⟨h, fun _ _ h => h, fun _ h => h⟩
   | _ => exact h.elim
 | R m' =>
   cases x with
   | R m =>
     obtain ⟨hi, h⟩ : (VCT.fact (relLe m' m) k).den := h
     exact ⟨h, fun _ _ h e x l hr => h e x l (hi e x l hr), fun _ h => h⟩
   | _ => exact h.elim

theorem mH_ok : ∀ (xs ys : List (Ent T)) (k : VCT), (mH xs ys k).den -> k.den /\ ∀ (i : Nat) (y : Ent T), ys[i]? = some y -> ∃ x, xs[i]? = some x /\ (∀ (I : Nat -> Prop) (w : World), x.ok I w -> y.ok I w) /\ ∀ j, y.has j -> x.has j := by
 intro xs ys
 induction ys generalizing xs with
 | nil => intro k h; exact ⟨by cases xs <;> exact h, fun i y hy => by simp at hy⟩
 | cons y ys ih =>
   intro k h
   cases xs with
   | nil => exact h.elim
   | cons x xs =>
     obtain ⟨h1, h2, h3⟩ := mEnt_ok x y _ h
     obtain ⟨h1, h4⟩ := ih xs k h1
     refine ⟨h1, fun i z hz => ?_⟩
     cases i with
     | zero =>
       simp only [List.getElem?_cons_zero, Option.some.injEq] at hz; subst hz
       exact ⟨x, rfl, h2, h3⟩
     | succ i => exact h4 i z hz

theorem mH_hok {C : Ctx T} {xs ys : List (Ent T)} {k : VCT} {w : World} (h : (mH xs ys k).den) (hH : HOK C xs w) : k.den /\ HOK C ys w /\ Stp (Owns xs) (Owns ys) w w := by
 obtain ⟨h1, h2⟩ := mH_ok xs ys k h
 have hsub : ∀ j, Owns ys j -> Owns xs j := by
   rintro j ⟨i, y, hi, hy⟩
   obtain ⟨x, hx, _, h3⟩ := h2 i y hi
   exact ⟨i, x, hx, h3 j hy⟩
 have s : Stp (Owns xs) (Owns ys) w w := ⟨rfl, rfl, rfl, Nat.le_refl _, fun _ _ _ => rfl, fun j hj => .inl (hsub j hj)⟩
 refine ⟨h1, ⟨fun i y hi => ?_, fun i j y y' k hi hj hy hy' => ?_, fun k hk => hH.lt k (hsub k hk), fun g v hg => ?_⟩, s⟩
 . obtain ⟨x, hx, h4, _⟩ := h2 i y hi
   exact Ent.ok_step s y (h4 _ _ (hH.ents i x hx)) (fun _ _ => rfl)
 . obtain ⟨x, hx, _, h3⟩ := h2 i y hi
   obtain ⟨x', hx', _, h3'⟩ := h2 j y' hj
   exact hH.apart i j x x' k hx hx' (h3 k hy) (h3' k hy')
 . obtain ⟨g1, g2, g3, g4⟩ := hH.glob g v hg
   exact ⟨g1, g2, fun h => g3 (hsub g h), g4⟩

theorem mFr_ok {S : St T} : ∀ (l : List (Nat × SV T)) (k : VCT), (mFr S l k).den -> k.den /\ ∀ d y, (d, y) ∈ l -> ∃ x, S.get d = some x /\ x.toV = y.toV /\ ∀ (I : Nat -> Prop) (w : World), x.valid I w -> y.valid I w := by
 intro l
 induction l with
 | nil => intro k h; exact ⟨h, fun d y hy => by simp at hy⟩
 | cons p r ih =>
   obtain ⟨d, y⟩ := p
   intro k h
   unfold mFr at h
   split at h
   . rename_i x hx
     obtain ⟨h1, h2, h3⟩ := mSV_ok x y _ h
     obtain ⟨h1, h4⟩ := ih k h1
     refine ⟨h1, fun d' y' hy => ?_⟩
     simp only [List.mem_cons, Prod.mk.injEq] at hy
     rcases hy with ⟨rfl, rfl⟩ | hy
     . exact ⟨x, hx, h2, h3⟩
     . exact h4 d' y' hy
   . exact h.elim

theorem forgetAll_len : ∀ (ws : List Tmp) (l : Fr T), (forgetAll ws l).length = l.length
 | [], l => rfl
 | d :: r, l => by rw [forgetAll, forgetAll_len r]; rfl
theorem putFr_len : ∀ (m : List (Nat × SV T)) (l : Fr T), (putFr m l).length = l.length
 | [], l => rfl
 | (d, x) :: r, l => by rw [putFr, putFr_len r]; rfl
theorem forgetAll_get : ∀ (ws : List Tmp) (l : Fr T) (i : Nat) (x : SV T), (forgetAll ws l).get i = some x -> i ∉ ws /\ l.get i = some x
 | [], l, i, x, h => ⟨by simp, h⟩
 | d :: r, l, i, x, h => by
   obtain ⟨h1, h2⟩ := forgetAll_get r _ i x h
   rcases Fr.get_set h2 with ⟨_, h3, _⟩ | ⟨h3, h4⟩
   . cases h3
   . exact ⟨by simp only [List.mem_cons, not_or]; exact ⟨fun h => h3 h.symm, h1⟩, h4⟩
theorem putFr_get : ∀ (m : List (Nat × SV T)) (l : Fr T) (i : Nat) (x : SV T), (putFr m l).get i = some x -> (i, x) ∈ m \/ l.get i = some x
 | [], l, i, x, h => .inr h
 | (d, y) :: r, l, i, x, h => by
   rcases putFr_get r _ i x h with h1 | h1
   . exact .inl (by simp [h1])
   . rcases Fr.get_set h1 with ⟨rfl, h3, _⟩ | ⟨h3, h4⟩
     . cases h3; exact .inl (by simp)
     . exact .inr h4

theorem inv_lead {C : Ctx T} {I : Inv T} {ws : List Tmp} {S S' : St T} {x : I.X} {k : VCT} {a a' : Act} {w w' : World} (hS : FrOK S a (Owns S.H) w) (hl : Lead C ws S S' a a' w w') (h : (mSt I S' S x k).den) :
   k.den /\ Lead C ws S (I.at ws S x) a a' w w' := by
 unfold mSt at h
 obtain ⟨h1, h2⟩ := mFr_ok _ _ h
 obtain ⟨h3, h4, h5⟩ := mH_hok h1 hl.H
 have hst : Stp (Owns S.H) (Owns (I.at ws S x).H) w w' := hl.stp.trans h5
 refine ⟨h3, ⟨⟨?_, fun i y hy => ?_⟩, h4, hst, hl.defers, hl.same, ?_⟩⟩
 . rw [hl.fr.size, hl.len]
   simp only [Inv.at, putFr_len, forgetAll_len]
 . rcases putFr_get _ _ i y hy with hm | hm
   . obtain ⟨z, hz, e1, e2⟩ := h2 i y hm
     obtain ⟨g1, g2⟩ := hl.fr.get i z hz
     exact ⟨e1 ▸ g1, SV.valid_step h5 y (e2 _ _ g2)⟩
   . obtain ⟨hi, hm⟩ := forgetAll_get _ _ i y hm
     obtain ⟨g1, g2⟩ := hS.get i y hm
     exact ⟨(hl.same i hi).trans g1, SV.valid_step hst y g2⟩
 . simp only [Inv.at, putFr_len, forgetAll_len]

/-! ### Rows that are left behind; ghosts -/
theorem drop_hok {C : Ctx T} {H : List (Ent T)} {w : World} (hH : HOK C H w) {H' : List (Ent T)} (hg : ∀ (i : Nat) (e : Ent T), H'[i]? = some e -> e = .X \/ H[i]? = some e) : HOK C H' w /\ Stp (Owns H) (Owns H') w w := by
 have sub : ∀ k, Owns H' k -> Owns H k := by
   rintro k ⟨i, e, hi, he⟩
   rcases hg i e hi with rfl | h
   . exact he.elim
   . exact ⟨i, e, h, he⟩
 have s : Stp (Owns H) (Owns H') w w := ⟨rfl, rfl, rfl, Nat.le_refl _, fun _ _ _ => rfl, fun k hk => .inl (sub k hk)⟩
 refine ⟨⟨fun i e hi => ?_, fun i j e e' k hi hj he he' => ?_, fun k hk => hH.lt k (sub k hk), fun g v hg => ?_⟩, s⟩
 . rcases hg i e hi with rfl | h
   . trivial
   . exact Ent.ok_step s e (hH.ents i e h) (fun _ _ => rfl)
 . rcases hg i e hi with rfl | h
   . exact he.elim
   . rcases hg j e' hj with rfl | h'
     . exact he'.elim
     . exact hH.apart i j e e' k h h' he he'
 . obtain ⟨h1, h2, h3, h4⟩ := hH.glob g v hg
   exact ⟨h1, h2, fun h => h3 (sub g h), h4⟩

theorem ro_sub {I : Nat -> Prop} {w : World} {e : TypeId} {v : Value} {xs : List (T.El e)} {lo hi : Nat} (h : roOK I w e v xs) (h1 : lo <= hi) (h2 : hi <= xs.length) :
   roOK I w e (sliceVal v lo hi (szE T e)) ((xs.take hi).drop lo) := by
 obtain ⟨A, cap, rfl, hc, hm, hro⟩ := h
 refine ⟨(if cap = lo then A else A.map (·.add (lo * szE T e))), cap - lo, ?_, ?_, ?_, fun hlt => ?_⟩
 . simp only [sliceVal]
   congr 1
   simp; omega
 . simp; omega
 . omega
 . have hlt2 : lo < xs.length := by
     simp only [List.length_drop, List.length_take] at hlt
     omega
   obtain ⟨ad, rfl, hn, hb, hcell⟩ := hro (Nat.lt_of_le_of_lt (Nat.zero_le _) hlt2)
   rw [if_neg (by omega)]
   have hb' : (ad.add (lo * szE T e)).block = ad.block := by unfold Addr.add; split <;> rfl
   refine ⟨ad.add (lo * szE T e), rfl, by rw [hb']; exact hn, by rw [hb']; exact hb, fun j v hj => ?_⟩
   rw [addr_add_add]
   rw [take_drop_flat, List.getElem?_drop] at hj
   exact hcell _ _ (flat_prefix e _ _ _ hj)
theorem own_ro {I : Nat -> Prop} {w : World} {e : TypeId} {x : Value} {l : List (T.El e)} (h : w.ownsRow 0 e (szE T e) x l.length (l.flatMap (T.enc e).enc)) (hn : ∀ k, x.ownBlock = some k -> ¬ I k) : roOK I w e x l := by
 rcases h.2 with ⟨hv0, hl⟩ | ⟨g, cap, cur, hv0, _, _, hnc, hm, _⟩
 . exact ⟨none, 0, by rw [hv0, hl], by omega, by decide, fun h0 => by omega⟩
 . refine ⟨_, cap, hv0, hnc, hm, fun h0 => ?_⟩
   obtain ⟨g', cap', hv', _, _, hc⟩ := own_cells h h0
   rw [hv0] at hv'
   cases hv'
   exact ⟨_, rfl, hn g (by rw [hv0]; rfl), own_lt h (by rw [hv0]; rfl), hc⟩
theorem absL_ok {I J : Nat -> Prop} {w : World} : ∀ (es : List (Ent T)) (rel : Rel T), (∀ e ∈ es, e.ok J w /\ ∀ k, e.has k -> ¬ I k) -> (Ent.R rel).ok I w -> (Ent.R (absL es rel)).ok I w
 | [], rel, _, h => h
 | e :: r, rel, he, h => by
   refine absL_ok r _ (fun x hx => he x (List.mem_cons_of_mem _ hx)) ?_
   obtain ⟨h1, h2⟩ := he e List.mem_cons_self
   cases e with
   | O x t l =>
     have hro := own_ro (I := I) h1 h2
     rintro e' x' l' (h3 | ⟨rfl, lo, hi, h4, h5, rfl, rfl⟩)
     . exact h e' x' l' h3
     . exact ro_sub hro h4 h5
   | _ => exact h
theorem leave_hok {C : Ctx T} {H H' : List (Ent T)} {w : World} {gone : List (Ent T)} (hH : HOK C H w) (h' : HOK C H' w) (hs : Stp (Owns H) (Owns H') w w)
   (hg : ∀ e ∈ gone, (∃ J, e.ok J w) /\ ∀ k, e.has k -> ¬ Owns H' k) : HOK C (updR (absL gone) H') w /\ Stp (Owns H) (Owns (updR (absL gone) H')) w w := by
 refine ⟨updR_hok h' fun rel hr => ?_, by rw [updR_owns]; exact hs⟩
 have : ∀ (es : List (Ent T)) (rel : Rel T), (∀ e ∈ es, (∃ J, e.ok J w) /\ ∀ k, e.has k -> ¬ Owns H' k) -> (Ent.R rel).ok (Owns H') w -> (Ent.R (absL es rel)).ok (Owns H') w := by
   intro es
   induction es with
   | nil => intro rel _ h; exact h
   | cons e r ih =>
     intro rel he h
     refine ih _ (fun x hx => he x (List.mem_cons_of_mem _ hx)) ?_
     obtain ⟨⟨J, h1⟩, h2⟩ := he e List.mem_cons_self
     exact absL_ok (J := J) [e] rel (by simpa using ⟨h1, h2⟩) h
 exact this gone rel hg hr
theorem absorb_hok {C : Ctx T} {H : List (Ent T)} {w : World} (n : Nat) (hH : HOK C H w) : HOK C (absorb n H) w /\ Stp (Owns H) (Owns (absorb n H)) w w := by
 unfold absorb
 split
 . obtain ⟨h1, h2⟩ := drop_hok hH (H' := H.take n) (fun i e hi => .inr (by rw [List.getElem?_take] at hi; split at hi; exact hi; cases hi))
   refine leave_hok hH h1 h2 fun e he => ?_
   obtain ⟨i, hi⟩ := List.mem_iff_getElem?.1 he
   rw [List.getElem?_drop] at hi
   refine ⟨⟨_, hH.ents _ _ hi⟩, fun k hk => ?_⟩
   rintro ⟨j, e', hj, hk'⟩
   rw [List.getElem?_take] at hj
   split at hj
   . have := hH.apart _ _ _ _ k hi hj hk hk'
     omega
   . cases hj
 . exact ⟨hH, Stp.refl _ _⟩
theorem lead_absorb {C : Ctx T} {ws : List Tmp} {S S' : St T} {a a' : Act} {w w' : World} (n : Nat) (hl : Lead C ws S S' a a' w w') : Lead C ws S (S'.absorb n) a a' w w' := by
 obtain ⟨h1, h2⟩ := absorb_hok n hl.H
 exact ⟨⟨hl.fr.size, fun i x hx => by obtain ⟨g1, g2⟩ := hl.fr.get i x hx; exact ⟨g1, SV.valid_step h2 x g2⟩⟩, h1, hl.stp.trans h2, hl.defers, hl.same, hl.len⟩

theorem gone_hok {C : Ctx T} {H : List (Ent T)} {w : World} (hH : HOK C H w) (g : Nat) : HOK C (updR (absL [H.getD g .X]) (H.set g .X)) w /\ Stp (Owns H) (Owns (updR (absL [H.getD g .X]) (H.set g .X))) w w /\ ∀ k, (H.getD g .X).has k -> ¬ Owns (updR (absL [H.getD g .X]) (H.set g .X)) k := by
 have setX : ∀ (i : Nat) (e : Ent T), (H.set g .X)[i]? = some e -> e = .X \/ H[i]? = some e := by
   intro i e hi
   rw [List.getElem?_set] at hi
   split at hi
   . split at hi
     . exact .inl (Option.some.inj hi).symm
     . cases hi
   . exact .inr hi
 have no : ∀ k, (H.getD g .X).has k -> ¬ Owns (H.set g .X) k := by
   rintro k hk ⟨j, e', hj, hk'⟩
   have hg : H[g]? = some (H.getD g .X) := ent_get (S := { fr := Fr.nil, H := H }) (h := g) rfl (by intro h0; rw [show H.getD g .X = .X from h0] at hk; exact hk.elim)
   rw [List.getElem?_set] at hj
   split at hj
   . split at hj
     . rw [<- Option.some.inj hj] at hk'; exact hk'.elim
     . cases hj
   . rename_i hne
     exact hne (hH.apart g j _ _ k hg hj hk hk')
 obtain ⟨h1, h2⟩ := drop_hok hH (H' := H.set g .X) setX
 obtain ⟨h3, h4⟩ := leave_hok (gone := [H.getD g .X]) hH h1 h2 fun e he => by
   obtain rfl := List.mem_singleton.1 he
   exact ⟨⟨_, ent_ok (S := { fr := Fr.nil, H := H }) hH g⟩, no⟩
 exact ⟨h3, h4, by rw [updR_owns]; exact no⟩
theorem lead_gone {C : Ctx T} {ws : List Tmp} {S : St T} {a a' : Act} {w w' : World} {k : St T -> VCT} : ∀ (gs : List Nat) (S' : St T), Lead C ws S S' a a' w w' -> (goneK gs S' k).den -> ∃ S2, (k S2).den /\ Lead C ws S S2 a a' w w'
 | [], S', hl, h => ⟨S', h, hl⟩
 | g :: r, S', hl, h => by
   have to : ∀ H2, HOK C H2 w' -> Stp (Owns S'.H) (Owns H2) w' w' -> Lead C ws S { fr := S'.fr, H := H2 } a a' w w' := fun H2 h3 h4 =>
     ⟨⟨hl.fr.size, fun i x hx => by obtain ⟨g1, g2⟩ := hl.fr.get i x hx; exact ⟨g1, SV.valid_step h4 x g2⟩⟩, h3, hl.stp.trans h4, hl.defers, hl.same, hl.len⟩
   obtain ⟨h3, h4, h5⟩ := gone_hok hl.H g
   have hok := ent_ok hl.H g
   simp only [goneK] at h
   split at h
   . rename_i x e l he
     simp only [updRK_eq] at h
     rw [show S'.ent g = .O x e l from he] at hok
     rw [he] at h3 h4 h5
     refine lead_gone r _ (to _ (updR_hok h3 fun rel hr => ?_) (by rw [updR_owns]; exact h4)) h
     rintro e' x' l' (h6 | ⟨rfl, rfl, rfl⟩)
     . exact hr e' x' l' h6
     . exact own_ro hok h5
   . simp only [updRK_eq] at h
     exact lead_gone r _ (to _ h3 h4) h
theorem frok_recast {S : St T} {a : Act} {I : Nat -> Prop} {w : World} (h : FrOK S a I w) {d : Nat} {x y : SV T} (hd : S.get d = some x) (hxy : x.toV = y.toV) (hy : y.valid I w) : FrOK (S.set (some d) y) a I w := by
 refine ⟨by rw [set_len]; exact h.size, fun i z hz => ?_⟩
 rcases St.get_set hz with ⟨rfl, rfl, _⟩ | ⟨_, hz⟩
 . exact ⟨by rw [<- hxy]; exact (h.get _ _ hd).1, hy⟩
 . exact h.get i z hz
theorem ghostK_ok {C : Ctx T} (g : Ghost) {S : St T} {k : St T -> VCT} {a : Act} {w : World} (hS : FrOK S a (Owns S.H) w) (hH : HOK C S.H w) (h : (ghostK g S k).den) : ∃ S', (k S').den /\ Lead C [] S S' a a w w := by
 have stay : (k S).den -> ∃ S', (k S').den /\ Lead C [] S S' a a w w := fun h => ⟨S, h, Lead.refl _ hS hH rfl rfl⟩
 have pushN : ∀ (S0 : St T) (e : TypeId), HOK C S0.H w -> HOK C (S0.push (.O (.slice none 0 0) e [])).H w /\ Stp (Owns S0.H) (Owns (S0.push (.O (.slice none 0 0) e [])).H) w w := fun S0 e h0 =>
   h0.push (.O (.slice none 0 0) e []) rfl rfl rfl (Nat.le_refl _) (fun _ _ => rfl) (fun k hk => by simp [Ent.has, Value.ownBlock] at hk) (fun I s => World.ownsRow_nil w 0 e (szE T e))
 cases g with
 | own d e =>
   simp only [ghostK] at h
   split at h
   . rename_i hd
     obtain ⟨h1, h2⟩ := pushN S e hH
     have hf : FrOK (S.push (.O (.slice none 0 0) e [])) a (Owns (S.push (.O (.slice none 0 0) e [])).H) w := ⟨hS.size, fun i x hx => (hS.step h2).get i x hx⟩
     refine ⟨_, h, ⟨?_, by rw [set_H]; exact h1, by rw [set_H]; exact h2, rfl, fun _ _ => rfl, by rw [set_len]; rfl⟩⟩
     rw [set_H]
     exact frok_recast hf (x := .v (.slice none 0 0)) hd rfl ⟨_, _, rfl⟩
   . exact stay h
 | ownC hh o e =>
   simp only [ghostK] at h
   split at h
   . rename_i b ty segs he
     split at h
     . rename_i hc
       split at h
       . rename_i segs' hsc
         have hok := ent_ok hH hh
         rw [he] at hok
         have hn := ent_get he (by intro h; cases h)
         obtain ⟨c1, c2, c3⟩ := findC_ok _ _ _ hok.2 hc
         obtain ⟨d1, d2, d3⟩ := setC_ok (I := Owns S.H) (w := w) segs o (.o S.H.length e (.slice none 0 0) 0) segs' hok.2 ⟨_, _, rfl⟩ rfl hsc
         have hsame : Seg.cellsL segs' = Seg.cellsL segs := by
           rw [d1]
           apply List.ext_getElem?
           intro j
           rw [List.getElem?_set]
           split
           . rename_i hj; subst hj; first | (rw [if_pos d2, c1]; rfl) | (rw [c1]; rfl)
           . rfl
         obtain ⟨p1, p2⟩ := hH.put hh _ (.B b ty segs') hn rfl rfl rfl (Nat.le_refl _) (fun _ _ _ => rfl) (fun k hk => ⟨.inl hk, hH.lt k ⟨hh, _, hn, hk⟩⟩) (fun I s => ⟨by rw [hsame]; exact hok.1, Seg.validL_step s _ d3⟩)
         obtain ⟨h1, h2⟩ := pushN (S.setEnt hh (.B b ty segs')) e p1
         refine ⟨_, h, ⟨⟨hS.size, fun i x hx => (hS.step (p2.trans h2)).get i x hx⟩, h1, p2.trans h2, rfl, fun _ _ => rfl, rfl⟩⟩
       . exact stay h
     . exact stay h
   . exact stay h
 | view d e =>
   simp only [ghostK] at h
   split at h
   . rename_i x n rel hd hr
     obtain ⟨l, hl, h⟩ := h
     have hro := isRo_ok hH hr hl
     obtain ⟨g1, A, cap, hx⟩ := hS.get d _ hd
     have hn : n = l.length := by obtain ⟨A, cap, hv, _⟩ := hro; rw [hx] at hv; cases hv; rfl
     refine ⟨_, h hn, ⟨?_, by rw [set_H]; exact hH, by rw [set_H]; exact Stp.refl _ _, rfl, fun _ _ => rfl, by rw [set_len]⟩⟩
     rw [set_H]
     exact frok_recast hS hd rfl hro
   . rename_i hd
     refine ⟨_, h, ⟨?_, by rw [set_H]; exact hH, by rw [set_H]; exact Stp.refl _ _, rfl, fun _ _ => rfl, by rw [set_len]⟩⟩
     rw [set_H]
     exact frok_recast hS hd rfl (roOK_nil _ _ _)
   . exact stay h
theorem ghosts_ok {C : Ctx T} : ∀ (gs : List Ghost) {S : St T} {k : St T -> VCT} {a : Act} {w : World}, FrOK S a (Owns S.H) w -> HOK C S.H w -> (ghosts gs S k).den -> ∃ S', (k S').den /\ Lead C [] S S' a a w w
 | [], S, k, a, w, hS, hH, h => ⟨S, h, Lead.refl _ hS hH rfl rfl⟩
 | g :: r, S, k, a, w, hS, hH, h => by
   obtain ⟨S1, h1, l1⟩ := ghostK_ok g hS hH h
   obtain ⟨S2, h2, l2⟩ := ghosts_ok r l1.fr l1.H h1
   exact ⟨S2, h2, (l1.trans l2).mono (by simp)⟩

/-! ### Ways out -/
def ExM (I : Nat -> Prop) (w : World) : Ex T -> Exit -> Prop
 | .normal, e => e = .normal
 | .exit i, e => e = .exit i
 | .goto l, e => e = .goto l
 | .ret, e => e = .ret
 | .panic x, e => e = .panic [{ v := x.toV, recovered := false }] /\ x.valid I w
def Post (C : Ctx T) (K : Ex T -> St T -> VCT) (ws : List Tmp) (S : St T) (a : Act) (w : World) : Exit -> Act -> World -> Prop :=
 fun e a' w' => ∃ ex S', ExM (Owns S'.H) w' ex e /\ (K ex S').den /\ Lead C ws S S' a a' w w'

theorem Post.trans {C : Ctx T} {K : Ex T -> St T -> VCT} {ws ws' ws'' : List Tmp} {S S1 : St T} {a a1 a' : Act} {w w1 w' : World} {e : Exit} (hl : Lead C ws S S1 a a1 w w1) (h : Post C K ws' S1 a1 w1 e a' w') (hs : ∀ d ∈ ws ++ ws', d ∈ ws'') :
   Post C K ws'' S a w e a' w' := by
 obtain ⟨ex, S', h1, h2, h3⟩ := h
 exact ⟨ex, S', h1, h2, (hl.trans h3).mono hs⟩

theorem setB_frok {S : St T} {a : Act} {w : World} {c : Operand} {t : Bool} (hS : FrOK S a (Owns S.H) w) (h : S.ev c = some (.v (.bool t))) : FrOK (S.setB c t) a (Owns (S.setB c t).H) w /\ (S.setB c t).H = S.H /\ (S.setB c t).fr.length = S.fr.length := by
 cases c with
 | tmp d => exact ⟨frOK_bool hS h, rfl, set_len _ _ _⟩
 | _ => exact ⟨hS, rfl, rfl⟩

theorem wp_scope_ghost {P : Program} {a : Act} {w : World} {Q : Exit -> Act -> World -> Prop} {c rest : Code} (l : Nat) (J : Nat -> Act -> World -> Prop) (hf : findLabel c l = some rest)
   (first : c.wp P (Exit.jump l (fun a w => ∃ n, J n a w) Q) a w)
   (pass : ∀ n a w, J n a w -> rest.wp P (Exit.jump l (fun a' w' => ∃ n', n' < n /\ J n' a' w') Q) a w) : (Code.scope c).wp P Q a w := by
 refine wp_scope_jumps l (fun a w => ∃ n, J n a w) (fun a w => leastOf (fun n => J n a w)) hf first ?_
 intro a w hJ
 refine wp_mono (pass _ a w (leastOf_spec hJ).1) ?_
 intro e a' w' hq
 cases e with
 | goto l' =>
   obtain ⟨rfl, n', hlt, hJ'⟩ := hq
   exact ⟨rfl, ⟨n', hJ'⟩, Nat.lt_of_le_of_lt ((leastOf_spec ⟨n', hJ'⟩).2 n' hJ') hlt⟩
 | _ => exact hq

theorem written_label : ∀ (c : Code) (l : Nat) (rest : Code), findLabel c l = some rest -> ∀ d ∈ written rest, d ∈ written c := by
 intro c
 induction c with
 | seq a b iha ihb =>
   intro l rest h d hd
   unfold findLabel at h
   split at h
   . rename_i r hr
     simp only [Option.some.injEq] at h; subst h
     simp only [written, List.mem_append] at hd ⊢
     exact hd.elim (fun h => .inl (iha l r hr d h)) .inr
   . simp only [written, List.mem_append]
     exact .inr (ihb l rest h d hd)
 | label l' =>
   intro l rest h d hd
   unfold findLabel at h
   split at h
   . simp only [Option.some.injEq] at h; subst h; simp [written] at hd
   . cases h
 | _ => intro l rest h; simp [findLabel] at h

theorem lexC_label : ∀ (c : Code) (l : Nat) (rest : Code), findLabel c l = some rest -> lexC c = true -> lexC rest = true := by
 intro c
 induction c with
 | seq a b iha ihb =>
   intro l rest h hc
   simp only [lexC, Bool.and_eq_true] at hc
   unfold findLabel at h
   split at h
   . rename_i r hr
     simp only [Option.some.injEq] at h; subst h
     simp only [lexC, Bool.and_eq_true]
     exact ⟨iha l r hr hc.1, hc.2⟩
   . exact ihb l rest h hc.2
 | label l' =>
   intro l rest h hc
   unfold findLabel at h
   split at h
   . simp only [Option.some.injEq] at h; subst h; rfl
   . cases h
 | _ => intro l rest h; simp [findLabel] at h

abbrev CodeOK (C : Ctx T) (G : Code -> St T -> (Ex T -> St T -> VCT) -> VCT) (c : Code) : Prop :=
 lexC c = true -> ∀ (S : St T) (K : Ex T -> St T -> VCT) (a : Act) (w : World), FrOK S a (Owns S.H) w -> HOK C S.H w -> (G c S K).den -> c.wp C.P (Post C K (written c) S a w) a w

theorem codexB_ok {C : Ctx T} (hz : ZOK C) {sp : Nat -> Option (PT T)} (hsp : ∀ f pt, sp f = some pt -> SpecOK C f pt) (hm : C.P.follows .mixedOrders = true) {ann : Ann T} {rec : Code -> St T -> (Ex T -> St T -> VCT) -> VCT} (hrec : ∀ c, CodeOK C rec c) :
   ∀ c : Code, CodeOK C (codexB C sp ann rec) c := by
 intro c
 induction c with
 | skip => intro _ S K a w hS hH h; exact wp_skip ⟨.normal, S, rfl, h, Lead.refl _ hS hH rfl rfl⟩
 | ret => intro _ S K a w hS hH h; exact wp_ret ⟨.ret, S, rfl, h, Lead.refl _ hS hH rfl rfl⟩
 | exit i => intro _ S K a w hS hH h; exact wp_exit ⟨.exit i, S, rfl, h, Lead.refl _ hS hH rfl rfl⟩
 | goto i => intro _ S K a w hS hH h; exact wp_goto ⟨.goto i, S, rfl, h, Lead.refl _ hS hH rfl rfl⟩
 | label i => intro _ S K a w hS hH h; exact wp_label ⟨.normal, S, rfl, h, Lead.refl _ hS hH rfl rfl⟩
 | region id ops draw =>
   intro hx S K a w hS hH h
   have := regx_ok (id := id) hz hsp hm (fun hd => by subst hd; simpa [lexC] using hx) hS hH h (Post C K (written (.region id ops draw)) S a w) (fun S' a' w' hk hl => ⟨.normal, S', rfl, hk, hl⟩) (fun x S' a' w' hk hx hl => ⟨.panic x, S', ⟨rfl, hx⟩, hk, hl⟩)
   simpa using this
 | seq c1 c2 ih1 ih2 =>
   intro hx S K a w hS hH h
   simp only [lexC, Bool.and_eq_true] at hx
   have ih1 := ih1 hx.1
   have ih2 := ih2 hx.2
   clear hx
   unfold codexB at h
   refine wp_seq ?_
   split at h
   . refine wp_mono (ih1 S _ a w hS hH h) ?_
     rintro e a1 w1 ⟨ex, S1, hx, hk, hl⟩
     cases ex with
     | normal =>
       cases hx
       refine wp_mono (ih2 S1 K a1 w1 hl.fr hl.H hk) ?_
       intro e2 a2 w2 hp
       exact Post.trans hl hp (by simp [written])
     | exit i => cases hx; exact ⟨.exit i, S1, rfl, hk, hl.mono (by simp [written]; exact fun _ h => .inl h)⟩
     | goto i => cases hx; exact ⟨.goto i, S1, rfl, hk, hl.mono (by simp [written]; exact fun _ h => .inl h)⟩
     | ret => cases hx; exact ⟨.ret, S1, rfl, hk, hl.mono (by simp [written]; exact fun _ h => .inl h)⟩
     | panic x => obtain ⟨rfl, hx⟩ := hx; exact ⟨.panic x, S1, ⟨rfl, hx⟩, hk, hl.mono (by simp [written]; exact fun _ h => .inl h)⟩
   . rename_i I _
     obtain ⟨h, hb⟩ := h
     refine wp_mono (ih1 S _ a w hS hH h) ?_
     rintro e a1 w1 ⟨ex, S1, hx, hk, hl⟩
     cases ex with
     | normal =>
       cases hx
       simp only [meets, absorbK_eq] at hk
       obtain ⟨S9, hk, hl9⟩ := lead_gone _ _ (lead_absorb S.H.length hl) hk
       obtain ⟨x, hphi, hk⟩ := hk
       obtain ⟨_, hl'⟩ := inv_lead hS hl9 hk
       have hb1 := hb x hphi
       rw [forceSt_eq] at hb1
       refine wp_mono (ih2 _ K a1 w1 hl'.fr hl'.H hb1) ?_
       intro e2 a2 w2 hp
       exact Post.trans hl' hp (by simp [written])
     | exit i => cases hx; exact ⟨.exit i, S1, rfl, hk, hl.mono (by simp [written]; exact fun _ h => .inl h)⟩
     | goto i => cases hx; exact ⟨.goto i, S1, rfl, hk, hl.mono (by simp [written]; exact fun _ h => .inl h)⟩
     | ret => cases hx; exact ⟨.ret, S1, rfl, hk, hl.mono (by simp [written]; exact fun _ h => .inl h)⟩
     | panic x => obtain ⟨rfl, hx⟩ := hx; exact ⟨.panic x, S1, ⟨rfl, hx⟩, hk, hl.mono (by simp [written]; exact fun _ h => .inl h)⟩
 | cond c c1 c2 ih1 ih2 =>
   intro hx S K a w hS hH h
   simp only [lexC, Bool.and_eq_true] at hx
   have ih1 := ih1 hx.1
   have ih2 := ih2 hx.2
   clear hx
   unfold codexB at h
   split at h
   . rename_i t hc
     obtain ⟨g1, g2⟩ := br_split h
     have he := (ev_ok hS hc).1
     obtain ⟨s1, s2, s3⟩ := setB_frok hS hc
     cases t
     . refine wp_cond_false he (wp_mono (ih2 _ K a w s1 (by rw [s2]; exact hH) (g2 rfl)) ?_)
       intro e2 a2 w2 hp
       exact Post.trans (Lead.refl [] s1 hH s2 s3) hp (by simp [written]; exact fun _ h => .inr h)
     . refine wp_cond_true he (wp_mono (ih1 _ K a w s1 (by rw [s2]; exact hH) (g1 rfl)) ?_)
       intro e2 a2 w2 hp
       exact Post.trans (Lead.refl [] s1 hH s2 s3) hp (by simp [written]; exact fun _ h => .inl h)
   . exact h.elim
 | block id b ih =>
   intro hx S K a w hS hH h
   have ih := ih hx
   clear hx
   unfold codexB at h
   refine wp_block (wp_mono (ih S _ a w hS hH h) ?_)
   rintro e a1 w1 ⟨ex, S1, hx, hk, hl⟩
   cases ex with
   | normal => cases hx; exact ⟨.normal, S1, rfl, hk, hl⟩
   | exit i =>
     cases hx
     simp only [Exit.inBlock]
     simp only at hk
     split
     . rename_i hi
       rw [if_pos hi] at hk
       exact ⟨.normal, S1, rfl, hk, hl⟩
     . rename_i hi
       rw [if_neg hi] at hk
       exact ⟨.exit i, S1, rfl, hk, hl⟩
   | goto i => cases hx; exact ⟨.goto i, S1, rfl, hk, hl⟩
   | ret => cases hx; exact ⟨.ret, S1, rfl, hk, hl⟩
   | panic x => obtain ⟨rfl, hx⟩ := hx; exact ⟨.panic x, S1, ⟨rfl, hx⟩, hk, hl⟩
 | loop b ih =>
   intro hx S K a w hS hH h
   have ih := ih hx
   clear hx
   unfold codexB at h
   split at h
   . rename_i I _
     obtain ⟨Sg, h, lg⟩ := ghosts_ok _ hS hH h
     refine wp_mono ?_ (fun e a' w' (hp : Post C K (written b) Sg a w e a' w') => Post.trans lg hp (fun d hd => by simpa [written] using hd))
     have hS := lg.fr
     have hH := lg.H
     clear lg
     generalize Sg = S at *
     obtain ⟨x0, hphi, h⟩ := h
     obtain ⟨hall, hl0⟩ := inv_lead hS (Lead.refl (written b) hS hH rfl rfl) h
     refine wp_loop_ghost (fun n a' w' => (∃ x, I.mu x + 1 = n /\ I.phi x /\ Lead C (written b) S (I.at (written b) S x) a a' w w') \/ (n = 0 /\ ∃ S2, Lead C (written b) S S2 a a' w w' /\ (codexB C sp ann rec b S2 fun e S' => match e with
         | .normal => .ff "one round more"
         | e => K e S').den)) (I.mu x0 + 1) (.inl ⟨x0, rfl, hphi, hl0⟩) ?_
     rintro n a1 w1 (⟨x, rfl, hphi, hl⟩ | ⟨rfl, S1, hl, hb1⟩)
     . have hb1 := hall x hphi
       rw [forceSt_eq] at hb1
       refine wp_mono (ih _ _ a1 w1 hl.fr hl.H hb1) ?_
       rintro e a2 w2 ⟨ex, S2, hx, hk, hl2⟩
       have hl3 : Lead C (written b) S S2 a a2 w w2 := (hl.trans hl2).mono (by simp)
       cases ex with
       | normal =>
         cases hx
         by_cases hal : I.alt S2 = true
         . simp only [hal, cond_true, forceSt_eq] at hk
           exact ⟨0, Nat.succ_pos _, .inr ⟨rfl, S2, hl3, hk⟩⟩
         . simp only [(by simpa using hal : I.alt S2 = false), cond_false, again, absorbK_eq] at hk
           obtain ⟨x', ⟨hphi', hlt⟩, hk⟩ := hk
           exact ⟨_, Nat.succ_lt_succ hlt, .inl ⟨x', rfl, hphi', (inv_lead hS (lead_absorb _ hl3) hk).2⟩⟩
       | exit i => cases hx; exact ⟨.exit i, S2, rfl, hk, hl3⟩
       | goto i => cases hx; exact ⟨.goto i, S2, rfl, hk, hl3⟩
       | ret => cases hx; exact ⟨.ret, S2, rfl, hk, hl3⟩
       | panic x => obtain ⟨rfl, hx⟩ := hx; exact ⟨.panic x, S2, ⟨rfl, hx⟩, hk, hl3⟩
     . refine wp_mono (ih _ _ a1 w1 hl.fr hl.H hb1) ?_
       rintro e a2 w2 ⟨ex, S2, hx, hk, hl2⟩
       have hl3 : Lead C (written b) S S2 a a2 w w2 := (hl.trans hl2).mono (by simp)
       cases ex with
       | normal => exact hk.elim
       | exit i => cases hx; exact ⟨.exit i, S2, rfl, hk, hl3⟩
       | goto i => cases hx; exact ⟨.goto i, S2, rfl, hk, hl3⟩
       | ret => cases hx; exact ⟨.ret, S2, rfl, hk, hl3⟩
       | panic x => obtain ⟨rfl, hx⟩ := hx; exact ⟨.panic x, S2, ⟨rfl, hx⟩, hk, hl3⟩
   . refine wp_loop_rounds C.fuel ?_
     generalize C.fuel = n at h
     have key : ∀ (n : Nat) (S1 : St T) (a1 : Act) (w1 : World), Lead C (written b) S S1 a a1 w w1 ->
         ((Nat.rec (fun _ => .ff "too many rounds") (fun _ go S => codexB C sp ann rec b S fun e S' => match e with
         | .normal => forceSt S' go
         | e => K e S') n : St T -> VCT) S1).den -> Code.rounds C.P b (Post C K (written (.loop b)) S a w) n a1 w1 := by
       intro n
       induction n with
       | zero => intro S1 a1 w1 _ h; exact h.elim
       | succ n ihn =>
         intro S1 a1 w1 hl h
         rw [rounds_succ]
         refine wp_mono (ih S1 _ a1 w1 hl.fr hl.H h) ?_
         rintro e a2 w2 ⟨ex, S2, hx, hk, hl2⟩
         have hl3 : Lead C (written b) S S2 a a2 w w2 := (hl.trans hl2).mono (by simp)
         cases ex with
         | normal =>
           cases hx
           have hk : (forceSt S2 _).den := hk
           rw [forceSt_eq] at hk
           exact ihn S2 a2 w2 hl3 hk
         | exit i => cases hx; exact ⟨.exit i, S2, rfl, hk, hl3⟩
         | goto i => cases hx; exact ⟨.goto i, S2, rfl, hk, hl3⟩
         | ret => cases hx; exact ⟨.ret, S2, rfl, hk, hl3⟩
         | panic x => obtain ⟨rfl, hx⟩ := hx; exact ⟨.panic x, S2, ⟨rfl, hx⟩, hk, hl3⟩
     exact key n S a w (Lead.refl _ hS hH rfl rfl) h
 | scope b ih =>
   intro hlx S K a w hS hH h
   have ih := ih hlx
   unfold codexB at h
   split at h
   . refine wp_scope_straight (wp_mono (ih S _ a w hS hH h) ?_)
     rintro e a1 w1 ⟨ex, S1, hx, hk, hl⟩
     cases ex with
     | normal => cases hx; exact ⟨.normal, S1, rfl, hk, hl⟩
     | exit i => cases hx; exact ⟨.exit i, S1, rfl, hk, hl⟩
     | goto i => exact hk.elim
     | ret => cases hx; exact ⟨.ret, S1, rfl, hk, hl⟩
     | panic x => obtain ⟨rfl, hx⟩ := hx; exact ⟨.panic x, S1, ⟨rfl, hx⟩, hk, hl⟩
   . rename_i I _
     split at h
     . rename_i rest hr
       obtain ⟨h, hall⟩ := h
       refine wp_scope_ghost 0 (fun n a' w' => ∃ x, I.mu x = n /\ I.phi x /\ Lead C (written b) S (I.at (written b) S x) a a' w w') hr ?_ ?_
       . refine wp_mono (ih S _ a w hS hH h) ?_
         rintro e a1 w1 ⟨ex, S1, hx, hk, hl⟩
         cases ex with
         | normal => cases hx; exact ⟨.normal, S1, rfl, hk, hl⟩
         | exit i => cases hx; exact ⟨.exit i, S1, rfl, hk, hl⟩
         | goto i =>
           cases hx
           simp only at hk
           split at hk
           . rename_i hi
             subst hi
             simp only [meets, absorbK_eq] at hk
             obtain ⟨S9, hk, hl9⟩ := lead_gone _ _ (lead_absorb _ hl) hk
             obtain ⟨x, hphi, hk⟩ := hk
             exact ⟨rfl, _, x, rfl, hphi, (inv_lead hS hl9 hk).2⟩
           . exact hk.elim
         | ret => cases hx; exact ⟨.ret, S1, rfl, hk, hl⟩
         | panic x => obtain ⟨rfl, hx⟩ := hx; exact ⟨.panic x, S1, ⟨rfl, hx⟩, hk, hl⟩
       . rintro n a1 w1 ⟨x, rfl, hphi, hl⟩
         have hb1 := hall x hphi
         rw [forceSt_eq] at hb1
         refine wp_mono (hrec rest (lexC_label b 0 rest hr hlx) _ _ a1 w1 hl.fr hl.H hb1) ?_
         rintro e a2 w2 ⟨ex, S2, hx, hk, hl2⟩
         have hl3 : Lead C (written b) S S2 a a2 w w2 := (hl.trans hl2).mono (by simp only [List.mem_append]; exact fun d hd => hd.elim id (written_label b 0 rest hr d))
         cases ex with
         | normal => cases hx; exact ⟨.normal, S2, rfl, hk, hl3⟩
         | exit i => cases hx; exact ⟨.exit i, S2, rfl, hk, hl3⟩
         | goto i =>
           cases hx
           simp only at hk
           split at hk
           . rename_i hi
             subst hi
             simp only [again, absorbK_eq] at hk
             obtain ⟨x', ⟨hphi', hlt⟩, hk⟩ := hk
             exact ⟨rfl, _, hlt, x', rfl, hphi', (inv_lead hS (lead_absorb _ hl3) hk).2⟩
           . exact hk.elim
         | ret => cases hx; exact ⟨.ret, S2, rfl, hk, hl3⟩
         | panic x => obtain ⟨rfl, hx⟩ := hx; exact ⟨.panic x, S2, ⟨rfl, hx⟩, hk, hl3⟩
     . exact h.elim
 | _ => intro _ S K a w hS hH h; exact h.elim

theorem codexD_ok {C : Ctx T} (hz : ZOK C) {sp : Nat -> Option (PT T)} (hsp : ∀ f pt, sp f = some pt -> SpecOK C f pt) (hm : C.P.follows .mixedOrders = true) {ann : Ann T} : ∀ (d : Nat) (c : Code), CodeOK C (codexD C sp ann d) c
 | 0 => codexB_ok hz hsp hm (fun _ _ _ _ _ _ _ _ h => h.elim)
 | d + 1 => codexB_ok hz hsp hm (codexD_ok hz hsp hm d)
theorem codex_ok {C : Ctx T} (hz : ZOK C) {sp : Nat -> Option (PT T)} (hsp : ∀ f pt, sp f = some pt -> SpecOK C f pt) (hm : C.P.follows .mixedOrders = true) {ann : Ann T} (c : Code) : CodeOK C (codex C sp ann) c :=
 codexD_ok hz hsp hm 2 c
end Go.Vg
/-
 The generator's soundness, part 14: results, functions.
-/
set_option linter.unusedVariables false
namespace Go.Vg
variable {T : Tys}

theorem load_as {P : Program} {t : TypeId} {v y : Value} {w : World} (h : (Instr.loadAt t v).run P w = .ok y w) : (do loadVar t (<- asAddr v) : Sem Value).run P w = .ok y w := by
 unfold Instr.loadAt at h
 cases v with
 | pointer a =>
   cases a with
   | none => simp [Instr.sureAddr, stuck] at h
   | some a => exact h
 | _ => simp [Instr.sureAddr, stuck] at h

def resRun (tmps : Array Value) : ResultVar -> Sem Value
 | .tmp t => pure (tmps.getD t undef)
 | .cell a t => do loadVar t (<- asAddr (tmps.getD a undef))
theorem resK_ok {C : Ctx T} {S : St T} {a : Act} {w : World} (hS : FrOK S a (Owns S.H) w) (hH : HOK C S.H w) : ∀ (l : List ResultVar) (k : List (SV T) -> VCT), (resK C S l k).den ->
   ∃ vs, (k vs).den /\ SV.validL (Owns S.H) w vs /\ (l.mapM (resRun a.tmps)).run C.P w = .ok (SV.toVL vs) w := by
 intro l
 induction l with
 | nil => intro k h; exact ⟨[], h, trivial, rfl⟩
 | cons r l ih =>
   intro k h
   cases r with
   | tmp t =>
     unfold resK at h
     split at h
     . rename_i x hx
       obtain ⟨g1, g2⟩ := hS.get t x hx
       obtain ⟨vs, h1, h2, h3⟩ := ih _ h
       refine ⟨x :: vs, h1, ⟨g2, h2⟩, ?_⟩
       rw [List.mapM_cons]
       have : a.tmps.getD t undef = x.toV := by rw [Array.getD_eq_getD_getElem?, g1]; rfl
       simp only [resRun, this, pure_bind, Sem.run_bind, h3, Result.andThen_ok]
       rfl
     . exact h.elim
   | cell p ty =>
     unfold resK at h
     split at h
     . rename_i x hx
       obtain ⟨g1, g2⟩ := hS.get p x hx
       obtain ⟨y, h, hy, hrun⟩ := ptrLoad_ok hH g2 h
       obtain ⟨vs, h1, h2, h3⟩ := ih _ h
       refine ⟨y :: vs, h1, ⟨hy, h2⟩, ?_⟩
       rw [List.mapM_cons]
       have e1 : a.tmps.getD p undef = x.toV := by rw [Array.getD_eq_getD_getElem?, g1]; rfl
       have e2 := load_as hrun
       rw [Sem.run_bind]
       have e3 : (resRun a.tmps (.cell p ty)).run C.P w = .ok y.toV w := by simp only [resRun, e1]; exact e2
       rw [e3, Result.andThen_ok, Sem.run_bind, h3, Result.andThen_ok]
       rfl
     . exact h.elim

theorem toVL_length : ∀ (l : List (SV T)), (SV.toVL l).length = l.length
 | [] => rfl
 | x :: r => by simp [SV.toVL, toVL_length r]
theorem tupleOf_ok (l : List (SV T)) : (if h : (SV.toVL l).toArray.size = 1 then (SV.toVL l).toArray[0] else .tuple (SV.toVL l).toArray) = (tupleOf l).toV := by
 match l with
 | [] => simp [SV.toVL, tupleOf, SV.toV]
 | [x] => simp [SV.toVL, tupleOf]
 | x :: y :: r => simp [SV.toVL, tupleOf, SV.toV]
theorem tupleOf_valid {I : Nat -> Prop} {w : World} (l : List (SV T)) (h : SV.validL I w l) : (tupleOf l).valid I w := by
 match l, h with
 | [], h => exact h
 | [x], h => exact h.1
 | x :: y :: r, h => exact h

theorem results_ok {C : Ctx T} {S : St T} {a : Act} {w : World} {fn : Func} {k : List (SV T) -> VCT} (hS : FrOK S a (Owns S.H) w) (hH : HOK C S.H w) (h : (resK C S fn.results.toList k).den) :
   ∃ vs, (k vs).den /\ SV.validL (Owns S.H) w vs /\ (results fn a.tmps).run C.P w = .ok (tupleOf vs).toV w := by
 obtain ⟨vs, h1, h2, h3⟩ := resK_ok hS hH _ _ h
 refine ⟨vs, h1, h2, ?_⟩
 have e : fn.results.mapM (resRun a.tmps) = List.toArray <$> fn.results.toList.mapM (resRun a.tmps) := Array.mapM_eq_mapM_toList
 show (do let vs <- fn.results.mapM (resRun a.tmps); pure (if h : vs.size = 1 then vs[0] else Value.tuple vs) : Sem Value).run C.P w = _
 rw [e]
 simp only [Sem.run_bind, Sem.run_map, h3, Result.andThen_ok]
 show Result.ok _ _ = _
 rw [tupleOf_ok]

theorem putArgs_get : ∀ (args : List (SV T)) (k : Nat) (f : Fr T) (i : Nat) (x : SV T), (putArgs args k f).get i = some x -> (k <= i /\ args[i - k]? = some x) \/ f.get i = some x
 | [], k, f, i, x, h => .inr h
 | y :: r, k, f, i, x, h => by
   rcases putArgs_get r (k + 1) _ i x h with ⟨h1, h2⟩ | h1
   . refine .inl ⟨by omega, ?_⟩
     rw [show i - k = (i - (k + 1)) + 1 by omega]
     exact h2
   . rcases Fr.get_set h1 with ⟨rfl, h3, _⟩ | ⟨_, h4⟩
     . cases h3; exact .inl ⟨Nat.le_refl _, by simp⟩
     . exact .inr h4
theorem putArgs_len : ∀ (args : List (SV T)) (k : Nat) (f : Fr T), (putArgs args k f).length = f.length
 | [], k, f => rfl
 | y :: r, k, f => by rw [putArgs, putArgs_len r]; rfl
theorem toVL_get {I : Nat -> Prop} {w : World} : ∀ (args : List (SV T)) (i : Nat) (x : SV T), SV.validL I w args -> args[i]? = some x -> (SV.toVL args)[i]? = some x.toV /\ x.valid I w
 | [], i, x, _, h => by simp at h
 | y :: r, 0, x, hv, h => by simp at h; subst h; exact ⟨rfl, hv.1⟩
 | y :: r, i + 1, x, hv, h => toVL_get r i x hv.2 (by simpa using h)
theorem start_frok {fn : Func} {args : List (SV T)} {H : List (Ent T)} {w : World} (hv : SV.validL (Owns H) w args) (hn : args.length <= fn.ntmps) :
   FrOK (start fn args H) { tmps := (SV.toVL args).toArray ++ Array.replicate (fn.ntmps - (SV.toVL args).toArray.size) undef, defers := [] } (Owns H) w := by
 constructor
 . simp only [start, putArgs_len, Array.size_append, List.size_toArray, toVL_length, Array.size_replicate]
   omega
 . intro i x hx
   rcases putArgs_get _ _ _ _ _ hx with ⟨_, h⟩ | h
   . obtain ⟨h1, h2⟩ := toVL_get args i x hv h
     refine ⟨?_, h2⟩
     have hi : i < (SV.toVL args).toArray.size := by
       rcases Nat.lt_or_ge i (SV.toVL args).length with h0 | h0
       . simpa using h0
       . rw [List.getElem?_eq_none h0] at h1; cases h1
     rw [Array.getElem?_append_left hi]
     simpa using h1
   . obtain ⟨_, h⟩ := Fr.get_some h
     rw [Fm.get_mk] at h
     cases h

def EndOK (C : Ctx T) (H : List (Ent T)) (w : World) (K Kp : SV T -> List (Ent T) -> VCT) : Ending -> World -> Prop := fun e w' =>
 (∃ r H', e = .returned r.toV /\ (K r H').den /\ HOK C H' w' /\ r.valid (Owns H') w' /\ Stp (Owns H) (Owns H') w w') \/
 (∃ x H', e = .panicked [{ v := x.toV, recovered := false }] /\ (Kp x H').den /\ HOK C H' w' /\ x.valid (Owns H') w' /\ Stp (Owns H) (Owns H') w w')

theorem calls_wp {P : Program} {f : FuncId} {fn : Func} {c : Code} {args : Array Value} {w : World} {R : Ending -> World -> Prop} (hf : P.funcs[f]? = some fn) (hb : fn.body = some c)
   (h : c.wp P (bodyPost P fn R) { tmps := args ++ Array.replicate (fn.ntmps - args.size) undef, defers := [] } w) : Calls P f args w R := calls_of_wp hf hb h

theorem fnx_ok {C : Ctx T} (hz : ZOK C) {sp : Nat -> Option (PT T)} (hsp : ∀ f pt, sp f = some pt -> SpecOK C f pt) (hm : C.P.follows .mixedOrders = true) {ann : Ann T} {f : Nat} {fn : Func} (hf : C.P.funcs[f]? = some fn) (hlx : lexF fn = true)
   {args : List (SV T)} {H : List (Ent T)} {K Kp : SV T -> List (Ent T) -> VCT} {w : World} (h : (fnx C sp ann fn args H K Kp).den) (hI : HInv C args H w) :
   Calls C.P f (SV.toVL args).toArray w (EndOK C H w K Kp) := by
 unfold fnx at h
 split at h
 . rename_i c hc
   split at h
   case isFalse => exact h.elim
   rename_i hn
   rw [forceSt_eq] at h
   refine calls_wp hf hc (wp_mono (codex_ok hz hsp hm c (by simpa [lexF, hc] using hlx) (start fn args H) _ _ w (start_frok hI.2 hn) hI.1 h) ?_)
   rintro e a' w' ⟨ex, S', hx, hk, hl⟩
   cases ex with
   | normal =>
     cases hx
     obtain ⟨vs, h1, h2, h3⟩ := results_ok hl.fr hl.H hk
     exact ⟨hl.defers, _, h3, .inl ⟨_, _, rfl, h1, hl.H, tupleOf_valid vs h2, hl.stp⟩⟩
   | ret =>
     cases hx
     obtain ⟨vs, h1, h2, h3⟩ := results_ok hl.fr hl.H hk
     exact ⟨hl.defers, _, h3, .inl ⟨_, _, rfl, h1, hl.H, tupleOf_valid vs h2, hl.stp⟩⟩
   | panic x =>
     obtain ⟨rfl, hx⟩ := hx
     exact ⟨hl.defers, .inr ⟨_, _, rfl, hk, hl.H, hx, hl.stp⟩⟩
   | exit i => exact hk.elim
   | goto i => exact hk.elim
 . exact h.elim

theorem spec_of_fnx {C : Ctx T} (hz : ZOK C) {sp : Nat -> Option (PT T)} (hsp : ∀ f pt, sp f = some pt -> SpecOK C f pt) (hm : C.P.follows .mixedOrders = true) {ann : Ann T} {f : Nat} {fn : Func} (hf : C.P.funcs[f]? = some fn)
   (hname : (fn.name == "runtime.NumGoroutine") = false) (hlx : lexF fn = true) {pt : PT T} (h : ∀ args H K Kp, (pt args H K Kp).den -> (fnx C sp ann fn args H K Kp).den) (hb : fn.body.isSome = true) : SpecOK C f pt := by
 obtain ⟨c, hc⟩ := Option.isSome_iff_exists.mp hb
 refine ⟨fun args w => MuLone.run_callFunc_enter hf hname hc args w, fun args H K Kp w hp hI => ?_⟩
 exact fnx_ok hz hsp hm hf hlx (h args H K Kp hp) hI
end Go.Vg
/-
 The generator's frame rule: a contract over the memory that its arguments reach; what is lent; what is frozen.
-/
set_option linter.unusedVariables false
namespace Go.Vg
variable {T : Tys}

mutual
/-- The entries' places renamed. -/
def SV.ren (f : Nat -> Nat) : SV T -> SV T
 | .un => .un
 | .v x => .v x
 | .p h b o => .p (f h) b o
 | .s h b e base lo len cap => .s (f h) b e base lo len cap
 | .o h e x n => .o (f h) e x n
 | .ov h e x lo hi v => .ov (f h) e x lo hi v
 | .w x n => .w x n
 | .q h e x i fld => .q (f h) e x i fld
 | .ro e x l => .ro e x l
 | .rq e x l i fld => .rq e x l i fld
 | .i t x => .i t (x.ren f)
 | .a xs => .a (Seg.renL f xs)
 | .t xs => .t (SV.renL f xs)
 | .f fn a b => .f fn (SV.renL f a) (SV.renL f b)
def SV.renL (f : Nat -> Nat) : List (SV T) -> List (SV T)
 | [] => []
 | x :: r => x.ren f :: SV.renL f r
def Seg.ren (f : Nat -> Nat) : Seg T -> Seg T
 | .c x => .c (x.ren f)
 | .r e n l => .r e n l
def Seg.renL (f : Nat -> Nat) : List (Seg T) -> List (Seg T)
 | [] => []
 | x :: r => x.ren f :: Seg.renL f r
end
mutual
def SV.refs : SV T -> List Nat
 | .p h _ _ => [h]
 | .s h _ _ _ _ _ _ => [h]
 | .o h _ _ _ => [h]
 | .ov h _ _ _ _ _ => [h]
 | .q h _ _ _ _ => [h]
 | .i _ x => x.refs
 | .a xs => Seg.refsL xs
 | .t xs => SV.refsL xs
 | .f _ a b => SV.refsL a ++ SV.refsL b
 | _ => []
def SV.refsL : List (SV T) -> List Nat
 | [] => []
 | x :: r => x.refs ++ SV.refsL r
def Seg.refs : Seg T -> List Nat
 | .c x => x.refs
 | .r _ _ _ => []
def Seg.refsL : List (Seg T) -> List Nat
 | [] => []
 | x :: r => x.refs ++ Seg.refsL r
end
mutual
/-- No row that is read alone. -/
def SV.noRo : SV T -> Bool
 | .ro _ _ _ => false
 | .rq _ _ _ _ _ => false
 | .i _ x => x.noRo
 | .a xs => Seg.noRoL xs
 | .t xs => SV.noRoL xs
 | .f _ a b => SV.noRoL a && SV.noRoL b
 | _ => true
def SV.noRoL : List (SV T) -> Bool
 | [] => true
 | x :: r => x.noRo && SV.noRoL r
def Seg.noRo : Seg T -> Bool
 | .c x => x.noRo
 | .r _ _ _ => true
def Seg.noRoL : List (Seg T) -> Bool
 | [] => true
 | x :: r => x.noRo && Seg.noRoL r
end
def Ent.ren (f : Nat -> Nat) : Ent T -> Ent T
 | .B b t xs => .B b t (Seg.renL f xs)
 | e => e
def Ent.refs : Ent T -> List Nat
 | .B _ _ xs => Seg.refsL xs
 | _ => []
def Ent.noRo : Ent T -> Bool
 | .B _ _ xs => Seg.noRoL xs
 | .R _ => false
 | _ => true
def noRoB : List (Ent T) -> Bool
 | [] => true
 | .R _ :: r => r.all Ent.noRo
 | x :: r => x.noRo && noRoB r
def rIdx : List (Ent T) -> Nat -> List Nat
 | [], _ => []
 | .R _ :: _, i => [i]
 | _ :: r, i => rIdx r (i + 1)

def reach (H : List (Ent T)) : Nat -> List Nat -> List Nat -> List Nat
 | 0, _, seen => seen
 | _ + 1, [], seen => seen
 | n + 1, h :: work, seen => if seen.contains h then reach H n work seen else if h < H.length then reach H n ((H.getD h .X).refs ++ work) (seen ++ [h]) else reach H n work seen
def posOf : List Nat -> Nat -> Nat
 | [], _ => 0
 | a :: r, h => if a = h then 0 else posOf r h + 1
def into (idx : List Nat) (h : Nat) : Nat := posOf idx h + 1
def back (idx : List Nat) (N i : Nat) : Nat := if i <= idx.length then idx.getD (i - 1) 0 else N + (i - idx.length - 1)
def setIdx (H : List (Ent T)) : List Nat -> List (Ent T) -> List (Ent T)
 | [], _ => H
 | g :: gs, [] => setIdx (H.set g .X) gs []
 | g :: gs, e :: es => setIdx (H.set g e) gs es
def merge (H : List (Ent T)) (idx : List Nat) (es : List (Ent T)) : List (Ent T) :=
 setIdx H idx ((es.take idx.length).map (·.ren (back idx H.length))) ++ (es.drop idx.length).map (·.ren (back idx H.length))

def borK (H : List (Ent T)) : List (Option TypeId) -> List (SV T) -> (List (SV T) -> List Nat -> VCT) -> VCT
 | [], r, k => k r []
 | _ :: _, [], k => k [] []
 | none :: bs, x :: r, k => borK H bs r fun a hs => k (x :: a) hs
 | some e0 :: bs, x :: r, k => match x with
   | .o h e x n => match H.getD h .X with
     | .O x' e' l => .fact (x = x' /\ n = l.length) (borK H bs r fun a hs => k (.ro e' x l :: a) (h :: hs))
     | _ => .ff "lend: no row of its own"
   | .ov h e x lo hi v => match H.getD h .X with
     | .O x' e' l => if e = e' then .fact (x = x' /\ lo <= hi /\ hi <= l.length) (borK H bs r fun a hs => k (.ro e' v ((l.take hi).drop lo) :: a) (h :: hs)) else .ff "lend: another type"
     | _ => .ff "lend: no row of its own"
   | .s h b e base lo len cap => match H.getD h .X with
     | .B b' _ _ => .fact (b = b' /\ len <= cap /\ cap <= maxLen) (srcK { fr := Fr.nil, H := H } e (.s h b e base lo len cap) fun l => borK H bs r fun a hs => k (.ro e (SV.s (T := T) h b e base lo len cap).toV l :: a) (h :: hs))
     | _ => .ff "lend: no block"
   | .w x n => match relOf H with
     | some rel => .ex (List (T.El e0)) fun l => .fact (isRo rel e0 x l) (.asm (n = l.length) (borK H bs r fun a hs => k (.ro e0 x l :: a) hs))
     | none => .ff "lend: nothing is known"
   | .v (.slice none 0 0) => borK H bs r fun a hs => k (.ro e0 (.slice none 0 0) [] :: a) hs
   | x => borK H bs r fun a hs => k (x :: a) hs

def locOut (H : List (Ent T)) (idx hs : List Nat) (m : Nat -> Option Obj) (K : SV T -> List (Ent T) -> VCT) (r : SV T) (Hl : List (Ent T)) : VCT :=
 match Hl with
 | .F m' :: es => .fact (m' = m) (if hs.isEmpty then K (r.ren (back idx H.length)) (merge H idx es) else match relOf H with
   | some rel => if r.noRo && noRoB es then K (r.ren (back idx H.length)) (merge H idx (updR (fun _ => rel) es)) else .ff "a call hands on what was lent"
   | none => if r.noRo && es.all Ent.noRo then K (r.ren (back idx H.length)) (merge H idx es) else .ff "a call hands on what was lent")
 | _ => .ff "the frame is lost"
def loc (bor : List (Option TypeId)) (pt : PT T) : PT T := fun args H K Kp =>
 borK H bor args fun args' hs =>
   let idx := reach H 500 (rIdx H 0 ++ SV.refsL args') []
   if hs.all fun h => !idx.contains h then
     .all (Nat -> Option Obj) fun m => pt (SV.renL (into idx) args') (.F m :: idx.map fun h => (H.getD h .X).ren (into idx)) (locOut H idx hs m K) (locOut H idx hs m Kp)
   else .ff "lent and handed over"

/-! ### Renaming changes nothing -/
mutual
theorem SV.ren_toV (f : Nat -> Nat) : ∀ x : SV T, (x.ren f).toV = x.toV
 | .un | .v _ | .p _ _ _ | .s _ _ _ _ _ _ _ | .o _ _ _ _ | .ov _ _ _ _ _ _ | .w _ _ | .q _ _ _ _ _ | .ro _ _ _ | .rq _ _ _ _ _ => rfl
 | .i t x => by simp only [SV.ren, SV.toV, SV.ren_toV f x]
 | .a xs => by simp only [SV.ren, SV.toV, Seg.renL_cells f xs]
 | .t xs => by simp only [SV.ren, SV.toV, SV.renL_toV f xs]
 | .f fn a b => by simp only [SV.ren, SV.toV, SV.renL_toV f a, SV.renL_toV f b]
theorem SV.renL_toV (f : Nat -> Nat) : ∀ x : List (SV T), SV.toVL (SV.renL f x) = SV.toVL x
 | [] => rfl
 | x :: r => by simp only [SV.renL, SV.toVL, SV.ren_toV f x, SV.renL_toV f r]
theorem Seg.ren_cells (f : Nat -> Nat) : ∀ x : Seg T, (x.ren f).cells = x.cells
 | .c x => by simp only [Seg.ren, Seg.cells, SV.ren_toV f x]
 | .r _ _ _ => rfl
theorem Seg.renL_cells (f : Nat -> Nat) : ∀ x : List (Seg T), Seg.cellsL (Seg.renL f x) = Seg.cellsL x
 | [] => rfl
 | x :: r => by simp only [Seg.renL, Seg.cellsL, Seg.ren_cells f x, Seg.renL_cells f r]
end
mutual
theorem SV.ren_valid (f : Nat -> Nat) (I : Nat -> Prop) (w : World) : ∀ x : SV T, x.valid I w -> (x.ren f).valid I w
 | .un, h | .v _, h | .p _ _ _, h | .s _ _ _ _ _ _ _, h | .o _ _ _ _, h | .ov _ _ _ _ _ _, h | .w _ _, h | .q _ _ _ _ _, h | .ro _ _ _, h | .rq _ _ _ _ _, h => h
 | .i t x, h => SV.ren_valid f I w x h
 | .a xs, h => Seg.renL_valid f I w xs h
 | .t xs, h => SV.renL_valid f I w xs h
 | .f fn a b, h => ⟨SV.renL_valid f I w a h.1, SV.renL_valid f I w b h.2⟩
theorem SV.renL_valid (f : Nat -> Nat) (I : Nat -> Prop) (w : World) : ∀ x : List (SV T), SV.validL I w x -> SV.validL I w (SV.renL f x)
 | [], _ => trivial
 | x :: r, h => ⟨SV.ren_valid f I w x h.1, SV.renL_valid f I w r h.2⟩
theorem Seg.ren_valid (f : Nat -> Nat) (I : Nat -> Prop) (w : World) : ∀ x : Seg T, x.valid I w -> (x.ren f).valid I w
 | .c x, h => ⟨SV.ren_valid f I w x h.1, by rw [SV.ren_toV f x]; exact h.2⟩
 | .r _ _ _, h => h
theorem Seg.renL_valid (f : Nat -> Nat) (I : Nat -> Prop) (w : World) : ∀ x : List (Seg T), Seg.validL I w x -> Seg.validL I w (Seg.renL f x)
 | [], _ => trivial
 | x :: r, h => ⟨Seg.ren_valid f I w x h.1, Seg.renL_valid f I w r h.2⟩
end
mutual
theorem SV.noRo_valid {I I' : Nat -> Prop} {w w' : World} : ∀ x : SV T, x.noRo = true -> x.valid I w -> x.valid I' w'
 | .un, _, h | .v _, _, h | .p _ _ _, _, h | .s _ _ _ _ _ _ _, _, h | .o _ _ _ _, _, h | .ov _ _ _ _ _ _, _, h | .w _ _, _, h | .q _ _ _ _ _, _, h => h
 | .ro _ _ _, h, _ => by simp [SV.noRo] at h
 | .rq _ _ _ _ _, h, _ => by simp [SV.noRo] at h
 | .i t x, n, h => SV.noRo_valid x n h
 | .a xs, n, h => Seg.noRoL_valid xs n h
 | .t xs, n, h => SV.noRoL_valid xs n h
 | .f fn a b, n, h => by
   simp only [SV.noRo, Bool.and_eq_true] at n
   exact ⟨SV.noRoL_valid a n.1 h.1, SV.noRoL_valid b n.2 h.2⟩
theorem SV.noRoL_valid {I I' : Nat -> Prop} {w w' : World} : ∀ x : List (SV T), SV.noRoL x = true -> SV.validL I w x -> SV.validL I' w' x
 | [], _, _ => trivial
 | x :: r, n, h => by
   simp only [SV.noRoL, Bool.and_eq_true] at n
   exact ⟨SV.noRo_valid x n.1 h.1, SV.noRoL_valid r n.2 h.2⟩
theorem Seg.noRo_valid {I I' : Nat -> Prop} {w w' : World} : ∀ x : Seg T, x.noRo = true -> x.valid I w -> x.valid I' w'
 | .c x, n, h => ⟨SV.noRo_valid x n h.1, h.2⟩
 | .r _ _ _, _, h => h
theorem Seg.noRoL_valid {I I' : Nat -> Prop} {w w' : World} : ∀ x : List (Seg T), Seg.noRoL x = true -> Seg.validL I w x -> Seg.validL I' w' x
 | [], _, _ => trivial
 | x :: r, n, h => by
   simp only [Seg.noRoL, Bool.and_eq_true] at n
   exact ⟨Seg.noRo_valid x n.1 h.1, Seg.noRoL_valid r n.2 h.2⟩
end
theorem Ent.ren_ok {I : Nat -> Prop} {w : World} (f : Nat -> Nat) (e : Ent T) (h : e.ok I w) : (e.ren f).ok I w := by
 cases e with
 | B b t xs => exact ⟨by rw [Seg.renL_cells]; exact h.1, Seg.renL_valid f I w xs h.2⟩
 | _ => exact h
theorem Ent.ren_has (f : Nat -> Nat) (e : Ent T) (k : Nat) : (e.ren f).has k ↔ e.has k := by cases e <;> exact Iff.rfl
theorem Ent.noRo_ok {I I' : Nat -> Prop} {w : World} (e : Ent T) (hn : e.noRo = true) (h : e.ok I w) : e.ok I' w := by
 cases e with
 | B b t xs => exact ⟨h.1, Seg.noRoL_valid xs hn h.2⟩
 | R rel => cases hn
 | _ => exact h

theorem reach_ok (H : List (Ent T)) : ∀ (n : Nat) (work seen : List Nat), seen.Nodup -> (∀ h ∈ seen, h < H.length) -> (reach H n work seen).Nodup /\ ∀ h ∈ reach H n work seen, h < H.length := by
 intro n
 induction n with
 | zero => intro work seen h1 h2; exact ⟨h1, h2⟩
 | succ n ih =>
   intro work seen h1 h2
   cases work with
   | nil => exact ⟨h1, h2⟩
   | cons h work =>
     simp only [reach]
     split
     . exact ih _ _ h1 h2
     . rename_i hs
       split
       . rename_i hl
         refine ih _ _ ?_ ?_
         . rw [List.nodup_append]
           refine ⟨h1, by simp, fun a ha b hb => ?_⟩
           simp only [List.mem_singleton] at hb
           subst hb
           intro h0; subst h0
           exact hs (by simpa using ha)
         . intro x hx
           simp only [List.mem_append, List.mem_singleton] at hx
           rcases hx with hx | rfl
           . exact h2 x hx
           . exact hl
       . exact ih _ _ h1 h2

theorem setIdx_len : ∀ (idx : List Nat) (es H : List (Ent T)), (setIdx H idx es).length = H.length
 | [], _, H => rfl
 | g :: gs, [], H => by rw [setIdx, setIdx_len gs]; simp
 | g :: gs, e :: es, H => by rw [setIdx, setIdx_len gs]; simp
theorem setIdx_get : ∀ (idx : List Nat) (es H : List (Ent T)) (g : Nat) (e : Ent T), idx.Nodup -> (setIdx H idx es)[g]? = some e -> (g ∉ idx /\ H[g]? = some e) \/ (e = .X) \/ ∃ i : Nat, idx[i]? = some g /\ es[i]? = some e := by
 intro idx
 induction idx with
 | nil => intro es H g e _ h; exact .inl ⟨by simp, h⟩
 | cons a r ih =>
   intro es H g e hn h
   rw [List.nodup_cons] at hn
   have fin : ∀ (e0 : Ent T) (es' : List (Ent T)), (setIdx (H.set a e0) r es')[g]? = some e -> (g ∉ a :: r /\ H[g]? = some e) \/ (e = .X) \/ (g = a /\ e = e0) \/ ∃ i : Nat, r[i]? = some g /\ es'[i]? = some e := by
     intro e0 es' h
     rcases ih es' _ g e hn.2 h with ⟨h1, h2⟩ | h2 | h2
     . rw [List.getElem?_set] at h2
       split at h2
       . rename_i ha
         subst ha
         split at h2
         . simp only [Option.some.injEq] at h2
           exact .inr (.inr (.inl ⟨rfl, h2.symm⟩))
         . cases h2
       . rename_i ha
         exact .inl ⟨by simp only [List.mem_cons, not_or]; exact ⟨fun h => ha h.symm, h1⟩, h2⟩
     . exact .inr (.inl h2)
     . exact .inr (.inr (.inr h2))
   cases es with
   | nil =>
     rcases fin .X [] h with h1 | h1 | ⟨_, h1⟩ | ⟨i, h1, h2⟩
     . exact .inl h1
     . exact .inr (.inl h1)
     . exact .inr (.inl h1)
     . simp at h2
   | cons e0 es =>
     rcases fin e0 es h with h1 | h1 | ⟨rfl, rfl⟩ | ⟨i, h1, h2⟩
     . exact .inl h1
     . exact .inr (.inl h1)
     . exact .inr (.inr ⟨0, rfl, rfl⟩)
     . exact .inr (.inr ⟨i + 1, h1, h2⟩)

theorem merge_get (H : List (Ent T)) (idx : List Nat) (es : List (Ent T)) (hn : idx.Nodup) (hlt : ∀ h ∈ idx, h < H.length) (g : Nat) (e : Ent T) (h : (merge H idx es)[g]? = some e) :
   (g ∉ idx /\ H[g]? = some e) \/ e = .X \/ ∃ (i : Nat) (e0 : Ent T), es[i]? = some e0 /\ e = e0.ren (back idx H.length) /\ ((i < idx.length /\ idx[i]? = some g) \/ (idx.length <= i /\ g = H.length + (i - idx.length))) := by
 unfold merge at h
 rw [List.getElem?_append, setIdx_len] at h
 split at h
 . rename_i hg
   rcases setIdx_get _ _ _ _ _ hn h with h1 | h1 | ⟨i, h1, h2⟩
   . exact .inl h1
   . exact .inr (.inl h1)
   . rw [List.getElem?_map, Option.map_eq_some_iff] at h2
     obtain ⟨e0, h2, rfl⟩ := h2
     rw [List.getElem?_take] at h2
     split at h2
     . rename_i hi
       exact .inr (.inr ⟨i, e0, h2, rfl, .inl ⟨hi, h1⟩⟩)
     . cases h2
 . rename_i hg
   rw [List.getElem?_map, Option.map_eq_some_iff] at h
   obtain ⟨e0, h2, rfl⟩ := h
   rw [List.getElem?_drop] at h2
   exact .inr (.inr ⟨idx.length + (g - H.length), e0, h2, rfl, .inr ⟨by omega, by omega⟩⟩)

theorem getD_ent (H : List (Ent T)) (h : Nat) (hl : h < H.length) : H[h]? = some (H.getD h .X) := by
 rw [List.getD_eq_getElem?_getD, List.getElem?_eq_getElem hl]; rfl

theorem roOK_step {I J : Nat -> Prop} {w : World} {e : TypeId} {x : Value} {l : List (T.El e)} (h : roOK I w e x l) (hs : ∀ k, J k -> I k) : roOK J w e x l :=
 h.step ⟨rfl, rfl, rfl, Nat.le_refl _, fun _ _ _ => rfl, fun k hk => .inl (hs k hk)⟩
theorem bor_ok {C : Ctx T} {H : List (Ent T)} {w : World} (hH : HOK C H w) : ∀ (bor : List (Option TypeId)) (args : List (SV T)) (k : List (SV T) -> List Nat -> VCT), (borK H bor args k).den -> SV.validL (Owns H) w args ->
   ∃ args' hs, (k args' hs).den /\ SV.toVL args' = SV.toVL args /\ (∀ I : Nat -> Prop, (∀ j, I j -> Owns H j /\ ∀ h ∈ hs, ¬ (H.getD h .X).has j) -> SV.validL I w args') := by
 intro bor
 have still : ∀ {x : SV T} {I : Nat -> Prop}, (∀ j, I j -> Owns H j) -> x.valid (Owns H) w -> x.valid I w := by
   intro x I hI hx
   exact SV.valid_step (w := w) ⟨rfl, rfl, rfl, Nat.le_refl _, fun _ _ _ => rfl, fun j hj => .inl (hI j hj)⟩ x hx
 have stillL : ∀ {x : List (SV T)} {I : Nat -> Prop}, (∀ j, I j -> Owns H j) -> SV.validL (Owns H) w x -> SV.validL I w x := by
   intro x I hI hx
   exact SV.validL_step (w := w) ⟨rfl, rfl, rfl, Nat.le_refl _, fun _ _ _ => rfl, fun j hj => .inl (hI j hj)⟩ x hx
 induction bor with
 | nil => intro args k h hv; exact ⟨args, [], h, rfl, fun I hI => stillL (fun j hj => (hI j hj).1) hv⟩
 | cons b bs ih =>
   intro args k h hv
   cases args with
   | nil => exact ⟨[], [], by cases b <;> exact h, rfl, fun _ _ => trivial⟩
   | cons x r =>
     have plain : ∀ y : SV T, y.toV = x.toV -> y.valid (Owns H) w -> (borK H bs r fun a hs => k (y :: a) hs).den -> ∃ args' hs, (k args' hs).den /\ SV.toVL args' = SV.toVL (x :: r) /\ (∀ I : Nat -> Prop, (∀ j, I j -> Owns H j /\ ∀ h ∈ hs, ¬ (H.getD h .X).has j) -> SV.validL I w args') := by
       intro y hy hyv h
       obtain ⟨a, hs, h1, h2, h3⟩ := ih r _ h hv.2
       exact ⟨y :: a, hs, h1, by simp only [SV.toVL, h2, hy], fun I hI => ⟨still (fun j hj => (hI j hj).1) hyv, h3 I hI⟩⟩
     cases b with
     | none => exact plain x rfl hv.1 h
     | some e0 =>
       simp only [borK] at h
       split at h
       . rename_i hh e v n
         split at h
         . rename_i x' e' l he
           obtain ⟨⟨rfl, rfl⟩, h⟩ := h
           obtain ⟨a, hs, h1, h2, h3⟩ := ih r _ h hv.2
           refine ⟨_ :: a, hh :: hs, h1, by simp only [SV.toVL, h2, SV.toV], fun I hI => ⟨?_, h3 I (fun j hj => ⟨(hI j hj).1, fun g hg => (hI j hj).2 g (by simp [hg])⟩)⟩⟩
           have hent : (H.getD hh .X).ok (Owns H) w := ent_ok (S := { fr := Fr.nil, H := H }) hH hh
           rw [he] at hent
           exact own_ro hent (fun k hk hI' => (hI k hI').2 hh (by simp) (by rw [he]; exact hk))
         . exact h.elim
       . rename_i hh e v lo hi v0
         split at h
         . rename_i x' e' l he
           split at h
           case isFalse => exact h.elim
           rename_i hee
           subst hee
           obtain ⟨⟨rfl, h7, h8⟩, h⟩ := h
           obtain ⟨a, hs, h1, h2, h3⟩ := ih r _ h hv.2
           refine ⟨_ :: a, hh :: hs, h1, by simp only [SV.toVL, h2, SV.toV], fun I hI => ⟨?_, h3 I (fun j hj => ⟨(hI j hj).1, fun g hg => (hI j hj).2 g (by simp [hg])⟩)⟩⟩
           have hent : (H.getD hh .X).ok (Owns H) w := ent_ok (S := { fr := Fr.nil, H := H }) hH hh
           rw [he] at hent
           have hro := own_ro (I := I) hent (fun k hk hI' => (hI k hI').2 hh (by simp) (by rw [he]; exact hk))
           obtain ⟨A9, n9, cap9, hA9, hv9⟩ := hv.1
           rcases hv9 with rfl | ⟨h5, h6, _, A8, rfl⟩
           . exact ro_sub hro h7 h8
           . refine ⟨A8, 0, by subst h5; simp, by subst h5; simp, by decide, fun h0 => by subst h5; simp at h0⟩
         . exact h.elim
       . rename_i hh b' e base lo len cap
         split at h
         . rename_i b2 ty segs he
           obtain ⟨⟨rfl, hlc, hm⟩, h⟩ := h
           obtain ⟨l, h, hsrc⟩ := srcK_ok (S := { fr := Fr.nil, H := H }) (x := .s hh b' e base lo len cap) hH hv.1 h
           obtain ⟨a, hs, h1, h2, h3⟩ := ih r _ h hv.2
           refine ⟨_ :: a, hh :: hs, h1, by simp only [SV.toVL, h2, SV.toV], fun I hI => ⟨?_, h3 I (fun j hj => ⟨(hI j hj).1, fun g hg => (hI j hj).2 g (by simp [hg])⟩)⟩⟩
           have hn := ent_get (S := { fr := Fr.nil, H := H }) (h := hh) he (by intro h; cases h)
           obtain ⟨A, c, hv0, h4, h5⟩ := hsrc
           simp only [SV.toV, Value.slice.injEq] at hv0
           obtain ⟨rfl, hlen, rfl⟩ := hv0
           refine ⟨_, cap, by simp only [SV.toV]; rw [hlen], by rw [<- hlen]; exact hlc, hm, fun h0 => ?_⟩
           obtain ⟨ad, had, hc⟩ := h5 h0
           cases had
           exact ⟨_, rfl, fun hI' => (hI b' hI').2 hh (by simp) (by rw [he]; rfl), hH.lt b' ⟨hh, _, hn, rfl⟩, hc⟩
         . exact h.elim
       . rename_i v n
         split at h
         . rename_i rel hrel
           obtain ⟨l, hl, h⟩ := h
           have hro := isRo_ok hH hrel hl
           obtain ⟨A', cap', hv'⟩ := hv.1
           have hn : n = l.length := by obtain ⟨A, cap, hv, _⟩ := hro; rw [hv'] at hv; cases hv; rfl
           exact plain (.ro e0 v l) rfl hro (h hn)
         . exact h.elim
       . exact plain (.ro e0 (.slice none 0 0) []) rfl (roOK_nil _ _ _) h
       . exact plain _ rfl hv.1 h
end Go.Vg
