/-
  The generator's soundness, part 8: stores, sources of elements, append, copy.
-/
import Derived.Test.YtohddhedejilfaaVg10
set_option linter.unusedVariables false
namespace Go.Vg
variable {T : Tys}

theorem szE_pos {e : TypeId} {l : List (T.El e)} {i : Nat} {u : T.El e} : ((T.enc e).enc u).length = szE T e := (T.enc e).len u

/-- A row in a block is written. -/
theorem row_put {C : Ctx T} {S : St T} {w : World} (hH : HOK C S.H w) {h b : Nat} {ty : TypeId} {p q : List (Seg T)} {e : TypeId} {n : Nat} {l l' : List (T.El e)} {off : Nat} {vs : List Value} (he : S.ent h = .B b ty (p ++ .r e n l :: q))
    (hl : l'.length = l.length) (hs : l'.flatMap (T.enc e).enc = splice (l.flatMap (T.enc e).enc) off vs) (hle : off + vs.length ≤ (l.flatMap (T.enc e).enc).length) :
    splice (Seg.cellsL (p ++ .r e n l :: q)) (segsLen p + off) vs = Seg.cellsL (p ++ .r e n l' :: q) ∧ Seg.validL (Owns S.H) w (p ++ .r e n l' :: q) ∧ segsLen p + off + vs.length ≤ (Seg.cellsL (p ++ .r e n l :: q)).length := by
  have hok := ent_ok hH h
  rw [he] at hok
  have hv := hok.2
  rw [validL_append] at hv
  have lp := cellsL_length p hv.1
  refine ⟨?_, ?_, ?_⟩
  · simp only [cellsL_append, Seg.cellsL, Seg.cells, hs]
    unfold splice
    rw [← lp, List.take_length_add_append, List.take_append_of_le_length (by omega), Nat.add_assoc, List.drop_length_add_append, List.drop_append_of_le_length (by omega)]
    simp
  · rw [validL_append]
    exact ⟨hv.1, hl.trans hv.2.1, hv.2.2⟩
  · simp only [cellsL_append, Seg.cellsL, Seg.cells, List.length_append]; omega

theorem own_parts {w : World} {e : TypeId} {x : Value} {l : List (T.El e)} (h : w.ownsRow 0 e (szE T e) x l.length (l.flatMap (T.enc e).enc)) (hl : 0 < l.length) :
    ∃ g cap cur, x = .slice (some ⟨g, 0, none⟩) l.length cap ∧ w.heap[g]? = some (.cells (cur : List Value).toArray e (0, 0)) ∧ l.length ≤ cap ∧ cap ≤ maxLen ∧ cur.length = cap * szE T e ∧ cur.take (l.length * szE T e) = l.flatMap (T.enc e).enc := by
  obtain ⟨h1, h2⟩ := h
  rcases h2 with ⟨_, h2⟩ | ⟨g, cap, cur, hv, _, hh, hn, hm, hs, ht⟩
  · omega
  · exact ⟨g, cap, cur.toList, hv, by simpa using hh, hn, hm, by simpa using hs, ht⟩

theorem take_splice {cs vs : List Value} {o L : Nat} (h : o + vs.length ≤ L) (hL : L ≤ cs.length) : (splice cs o vs).take L = splice (cs.take L) o vs := by
  apply List.ext_getElem?
  intro j
  simp only [splice, List.getElem?_take, List.getElem?_append, List.length_append, List.length_take, List.getElem?_drop]
  have e1 : min o cs.length = o := by omega
  have e2 : min o (min L cs.length) = o := by omega
  simp only [e1, e2]
  repeat' split
  all_goals first | rfl | omega | (congr 1; omega) | (rw [List.getElem?_eq_none]; omega) | (symm; rw [List.getElem?_eq_none]; omega)

/-- A row of the call's own is written. -/
theorem own_put {C : Ctx T} {S : St T} {w : World} (hH : HOK C S.H w) {h : Nat} {x : Value} {e : TypeId} {l l' : List (T.El e)} {off : Nat} {vs : List Value} (he : S.ent h = .O x e l) (hpos : 0 < l.length)
    (hl : l'.length = l.length) (hs : l'.flatMap (T.enc e).enc = splice (l.flatMap (T.enc e).enc) off vs) (hle : off + vs.length ≤ (l.flatMap (T.enc e).enc).length) :
    ∃ g cap cur, x = .slice (some ⟨g, 0, none⟩) l.length cap ∧ w.heap[g]? = some (.cells (cur : List Value).toArray e (0, 0)) ∧ off + vs.length ≤ cur.length ∧
      HOK C (S.setEnt h (.O x e l')).H (setBlk w g (splice cur off vs) e) ∧ Stp (Owns S.H) (Owns (S.setEnt h (.O x e l')).H) w (setBlk w g (splice cur off vs) e) := by
  have hok := ent_ok hH h
  rw [he] at hok
  obtain ⟨g, cap, cur, rfl, hh, hn, hm, hs', ht⟩ := own_parts hok hpos
  have hflat := enc_flat_length e l
  have hmul : l.length * szE T e ≤ cap * szE T e := Nat.mul_le_mul_right _ hn
  refine ⟨g, cap, cur, rfl, hh, by omega, ?_⟩
  have hn' := ent_get he (by intro h; cases h)
  have hb : g < w.heap.size := hH.lt g ⟨h, _, hn', rfl⟩
  refine hH.put h _ _ hn' rfl rfl rfl (by rw [setBlk_size]; exact Nat.le_refl _) (fun k hk hne => setBlk_other (fun h' => hne (by rw [h']; rfl))) (fun k hk => ?_) (fun I s => ?_)
  · simp only [Ent.has, Value.ownBlock, Option.some.injEq] at hk
    subst hk
    exact ⟨.inl rfl, by rw [setBlk_size]; exact hb⟩
  · refine ⟨enc_flat_length e l', .inr ⟨g, cap, (splice cur off vs).toArray, by rw [hl], Nat.zero_le _, setBlk_get hb, by omega, hm, ?_, ?_⟩⟩
    · simp only [List.size_toArray]; rw [splice_length (by omega), hs']
    · simp only [hs, hl, ← ht]
      exact take_splice (by omega) (by omega)

theorem ptrStore_ok {C : Ctx T} {t : TypeId} {S : St T} {x y : SV T} {next : St T → VCT} {w : World} (hH : HOK C S.H w) (hy : y.valid (Owns S.H) w) (hp : y.isPart = true) (h : (ptrStore C t S x y next).den) :
    ∃ S' w', (next S').den ∧ (Instr.storeAt t x.toV y.toV).run C.P w = .ok () w' ∧ S'.fr = S.fr ∧ HOK C S'.H w' ∧ Stp (Owns S.H) (Owns S'.H) w w' := by
  have sure : ∀ (a : Addr) (s : Addr → Sem Unit), (Instr.sureAddr (.pointer (some a)) >>= s) = s a := fun a s => rfl
  obtain ⟨hc, hvs⟩ := seg_cells_toV hy (isPart_ok hp).1 (isPart_ok hp).2
  have hlen := cellsL_length _ hvs
  have hone := cellsL_one _ hvs
  unfold ptrStore at h
  split at h
  · rename_i hh b o
    split at h
    · rename_i b' ty segs he
      have hok := ent_ok hH hh
      rw [he] at hok
      split at h
      · rename_i n hn
        split at h
        · rename_i hsl
          split at h
          · rename_i segs' hset
            obtain ⟨rfl, h⟩ := h
            have key : splice (Seg.cellsL segs) o (Seg.cellsL y.segs) = Seg.cellsL segs' ∧ Seg.validL (Owns S.H) w segs' ∧ o + n ≤ (Seg.cellsL segs).length := by
              split at hset
              · rename_i u hu
                rw [hu] at hvs
                obtain ⟨e1, e2, e3⟩ := setC_ok _ _ _ _ hok.2 hvs.1.1 hvs.1.2 hset
                rw [hu]
                refine ⟨?_, e3, by omega⟩
                rw [e1, set_splice _ _ _ e2]; rfl
              · obtain ⟨p, m, q, rfl, rfl, hp1, hm⟩ := putS_ok _ _ _ _ _ hset
                have hv := hok.2
                rw [validL_append, validL_append] at hv
                have lp := cellsL_length p hv.1.1
                have lm := cellsL_length m hv.1.2
                refine ⟨?_, ?_, ?_⟩
                · simp only [cellsL_append]
                  rw [← hp1, ← lp]
                  exact splice_append _ _ _ _ (by omega)
                · rw [validL_append, validL_append]; exact ⟨⟨hv.1.1, hvs⟩, hv.2⟩
                · simp only [cellsL_append, List.length_append]; omega
            obtain ⟨k1, k2, k3⟩ := key
            refine ⟨_, _, h, ?_, rfl, block_step hH he k2⟩
            simp only [SV.toV, Instr.storeAt, sure, Off.val]
            rw [storeVar_ok hok.1 hn hc (by omega) hone k3, k1]
          · exact h.elim
        · exact h.elim
      · exact h.elim
    · exact h.elim
  · rename_i hh b base i sz fld
    split at h
    · rename_i b' ty segs he
      have hok := ent_ok hH hh
      rw [he] at hok
      split at h
      · rename_i e n l hr
        split at h
        · rename_i hsz
          split at h
          · rename_i m hm
            have fin : ∀ (z u : T.El e) (segs' : List (Seg T)), l[i]? = some z → fld + m ≤ szE T e → (Seg.cellsL y.segs).length = m → (T.enc e).enc u = ((T.enc e).enc z).take fld ++ Seg.cellsL y.segs ++ ((T.enc e).enc z).drop (fld + m) →
                setR e n (l.set i u) segs base = some segs' → b = b' → (next (S.setEnt hh (.B b' ty segs'))).den →
                ∃ S' w', (next S').den ∧ (Instr.storeAt t (SV.toV (T := T) (.p hh b (.el base i sz fld))) y.toV).run C.P w = .ok () w' ∧ S'.fr = S.fr ∧ HOK C S'.H w' ∧ Stp (Owns S.H) (Owns S'.H) w w' := by
              intro z u segs' hz hfm hcl hu hsr hbb hnext
              subst hbb
              obtain ⟨p, q, rfl, rfl, hpb, _⟩ := setR_ok _ _ _ _ _ _ _ _ _ hok.2 hr hsr
              have hfs := flat_set e l i z u fld (Seg.cellsL y.segs) hz (by omega) (by rw [hcl]; exact hu)
              have hil : i < l.length := by
                rcases Nat.lt_or_ge i l.length with h0 | h0
                · exact h0
                · rw [List.getElem?_eq_none h0] at hz; cases hz
              have hfl := enc_flat_length e l
              have hmul : (i + 1) * szE T e ≤ l.length * szE T e := Nat.mul_le_mul_right _ hil
              rw [Nat.succ_mul] at hmul
              obtain ⟨k1, k2, k3⟩ := row_put hH he (l' := l.set i u) (by simp) hfs (by omega)
              refine ⟨_, _, hnext, ?_, rfl, block_step hH he k2⟩
              simp only [SV.toV, Instr.storeAt, sure, Off.val, hsz]
              have hadr : base + i * szE T e + fld = segsLen p + (i * szE T e + fld) := by rw [hpb]; omega
              rw [hadr, storeVar_ok hok.1 hm hc hcl hone (by omega), k1]
            split at h
            · rename_i hfm
              split at h
              · rename_i u hu
                split at h
                · rename_i segs' hsr
                  obtain ⟨⟨hbb, hil⟩, h⟩ := h
                  have henc := (T.enc e).dec_ok _ _ hu
                  have hul : ((T.enc e).enc u).length = szE T e := (T.enc e).len u
                  have hcl : (Seg.cellsL y.segs).length = m := by rw [← henc, hul, hfm.2, hsz]
                  refine fin l[i] u segs' (List.getElem?_eq_getElem hil) (by rw [hfm.1, hfm.2, hsz]; omega) hcl ?_ hsr hbb h
                  have hzl : ((T.enc e).enc l[i]).length = szE T e := (T.enc e).len _
                  rw [henc, hfm.1, List.take_zero, List.drop_of_length_le (by rw [hzl, hfm.2, hsz]; omega)]; simp
                · exact h.elim
              · exact h.elim
            · obtain ⟨hbb, hil, h⟩ := h
              have hz : l[i]? = some l[i] := List.getElem?_eq_getElem hil
              have h := h l[i] hz
              split at h
              · rename_i u hu
                split at h
                · rename_i segs' hsr
                  split at h
                  · rename_i hc2
                    exact fin l[i] u segs' hz (by omega) (by omega) ((T.enc e).dec_ok _ _ hu) hsr hbb h
                  · exact h.elim
                · exact h.elim
              · exact h.elim
          · exact h.elim
        · exact h.elim
      · exact h.elim
    · exact h.elim
  · rename_i hh e v i fld
    split at h
    · rename_i v' e' l he
      have hok := ent_ok hH hh
      rw [he] at hok
      split at h
      · rename_i hee
        subst hee
        split at h
        · rename_i m hm
          have fin : ∀ (z u : T.El e), l[i]? = some z → fld + m ≤ szE T e → (Seg.cellsL y.segs).length = m → (T.enc e).enc u = ((T.enc e).enc z).take fld ++ Seg.cellsL y.segs ++ ((T.enc e).enc z).drop (fld + m) →
              v = v' → (next (S.setEnt hh (.O v' e (l.set i u)))).den →
              ∃ S' w', (next S').den ∧ (Instr.storeAt t (SV.toV (T := T) (.q hh e v i fld)) y.toV).run C.P w = .ok () w' ∧ S'.fr = S.fr ∧ HOK C S'.H w' ∧ Stp (Owns S.H) (Owns S'.H) w w' := by
            intro z u hz hfm hcl hu hvv hnext
            subst hvv
            have hfs := flat_set e l i z u fld (Seg.cellsL y.segs) hz (by omega) (by rw [hcl]; exact hu)
            have hil : i < l.length := by
              rcases Nat.lt_or_ge i l.length with h0 | h0
              · exact h0
              · rw [List.getElem?_eq_none h0] at hz; cases hz
            have hfl := enc_flat_length e l
            have hmul : (i + 1) * szE T e ≤ l.length * szE T e := Nat.mul_le_mul_right _ hil
            rw [Nat.succ_mul] at hmul
            obtain ⟨g, cap, cur, rfl, hg, hle, hst⟩ := own_put hH he (by omega) (l' := l.set i u) (by simp) hfs (by omega)
            refine ⟨_, _, hnext, ?_, rfl, hst⟩
            simp only [SV.toV, addrOf, Instr.storeAt, sure]
            rw [add_block, Nat.zero_add]
            exact storeVar_ok hg hm hc hcl hone (by rw [← hcl]; exact hle)
          split at h
          · rename_i hfm
            split at h
            · rename_i u hu
              obtain ⟨⟨hvv, hil⟩, h⟩ := h
              have henc := (T.enc e).dec_ok _ _ hu
              have hul : ((T.enc e).enc u).length = szE T e := (T.enc e).len u
              have hcl : (Seg.cellsL y.segs).length = m := by rw [← henc, hul, hfm.2]
              refine fin l[i] u (List.getElem?_eq_getElem hil) (by rw [hfm.1, hfm.2]; omega) hcl ?_ hvv h
              have hzl : ((T.enc e).enc l[i]).length = szE T e := (T.enc e).len _
              rw [henc, hfm.1, List.take_zero, List.drop_of_length_le (by rw [hzl, hfm.2]; omega)]; simp
            · exact h.elim
          · obtain ⟨hvv, hil, h⟩ := h
            have hz : l[i]? = some l[i] := List.getElem?_eq_getElem hil
            have h := h l[i] hz
            split at h
            · rename_i u hu
              split at h
              · rename_i hc2
                exact fin l[i] u hz (by omega) (by omega) ((T.enc e).dec_ok _ _ hu) hvv h
              · exact h.elim
            · exact h.elim
        · exact h.elim
      · exact h.elim
    · exact h.elim
  · exact h.elim
end Go.Vg
