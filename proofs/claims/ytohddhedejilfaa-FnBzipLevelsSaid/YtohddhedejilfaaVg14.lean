/-
  The generator's soundness, part 11: all operations.
-/
import Derived.Test.YtohddhedejilfaaVg13
set_option linter.unusedVariables false
namespace Go.Vg
variable {T : Tys}

/-- Where an operation may lead. -/
def Goes (C : Ctx T) (o : Oper) (S : St T) (a : Act) (w : World) (next : St T → VCT) (pan : SV T → St T → VCT) : Prop :=
  ∀ (nx : Act → World → Prop) (Q : Exit → Act → World → Prop), (∀ S' a' w', (next S').den → Leads C S S' o a a' w w' → nx a' w') →
    (∀ x S' w', (pan x S').den → x.valid (Owns S'.H) w' → FrOK S' a (Owns S'.H) w' → HOK C S'.H w' → Stp (Owns S.H) (Owns S'.H) w w' → Q (.panic [{ v := x.toV, recovered := false }]) a w') → o.wp C.P a w nx Q

theorem goes_run {C : Ctx T} {o : Oper} {S S' : St T} {a : Act} {w w' : World} {next : St T → VCT} {pan : SV T → St T → VCT} {v : Value} (hr : (execOp a.eval o).run C.P w = .ok (.value v) w') (hn : (next S').den) (hl : Leads C S S' o a (a.put o.dst v) w w') :
    Goes C o S a w next pan := by
  intro nx Q h1 h2
  unfold Oper.wp
  rw [hr, Oper.upon_value]
  exact h1 S' _ w' hn hl

theorem still_goes {C : Ctx T} (hz : ZOK C) {o : Oper} {S : St T} {a : Act} {w : World} {next : St T → VCT} {pan : SV T → St T → VCT} (hS : FrOK S a (Owns S.H) w) (hH : HOK C S.H w) (h : (stx C o S fun y => next (S.set o.dst y)).den) : Goes C o S a w next pan := by
  obtain ⟨y, h1, h2, h3⟩ := stx_ok hz hS hH h
  exact goes_run h3 h1 (leads_put hS (S1 := S) rfl hH (Stp.refl _ _) h2)

theorem call_goes {C : Ctx T} {sp : Nat → Option (PT T)} (hsp : ∀ f pt, sp f = some pt → SpecOK C f pt) {o : Oper} {S : St T} {a : Act} {w : World} {next : St T → VCT} {pan : SV T → St T → VCT} {f : Nat} {args : List (SV T)} {vals : Array Value}
    (hS : FrOK S a (Owns S.H) w) (hH : HOK C S.H w) (hv : SV.validL (Owns S.H) w args) (hargs : vals = (SV.toVL args).toArray) (hr : (execOp a.eval o).run C.P w = (callFunc f vals).run C.P w) (h : (callK sp o S f args next pan).den) : Goes C o S a w next pan := by
  subst hargs
  unfold callK at h
  split at h
  · rename_i pt hpt
    obtain ⟨he, hc⟩ := hsp f pt hpt
    intro nx Q h1 h2
    unfold Oper.wp
    rw [hr, he, Oper.upon_enter]
    refine (hc args S.H _ _ w h ⟨hH, hv⟩).mono ?_
    rintro e w' (⟨r, H', rfl, hk, hH', hr', hst⟩ | ⟨x, H', rfl, hk, hH', hx, hst⟩)
    · exact h1 _ _ _ hk (leads_put hS (S1 := { S with H := H' }) rfl hH' hst hr')
    · exact h2 x { S with H := H' } w' hk hx (frOK_H (hS.step hst) H') hH' hst
  · exact h.elim

theorem value_call (ρ : Operand → Value) (o : Oper) (c : Call) (ho : o.op = .call c) (g : Operand) (hc : c.callee = .value g) (f : Nat) (first captured : Array Value) (hg : ρ g = .func (.func f) first captured) (P : Program) (w : World) :
    (execOp ρ o).run P w = (callFunc f (first ++ c.args.map ρ ++ captured)).run P w := by
  unfold execOp
  simp only [ho, resolve, hc, hg, Deferred.ofValue, Sem.run_bind, Sem.run_pure, Result.andThen_ok, invoke]

theorem methodOf_ok {P : Program} {t : TypeId} {name : String} {f : Nat} (h : methodOf P t name = some f) (v : Value) (w : World) (fuel : Nat) : (method (fuel + 1) t v name).run P w = .ok (f, v) w := by
  unfold methodOf at h
  split at h
  · rename_i i hi
    split at h
    · rename_i m hm
      split at h
      · rename_i hpath
        have hp : m.path = #[] := by simpa using hpath
        unfold method
        simp only [typeInfo, Sem.run_bind, run_program, Result.andThen_ok, hi, Sem.run_pure, hm, hp, follow]
        split at h
        · rename_i f' e hf hd
          simp only [Option.some.injEq] at h; subst h
          simp only [hf, Sem.run_bind, receiverAt, run_underlying hd, Result.andThen_ok, Place.get, Sem.run_pure]
        · cases h
        · rename_i f' d hne hf hd
          simp only [Option.some.injEq] at h; subst h
          simp only [hf, Sem.run_bind, receiverAt, run_underlying hd, Result.andThen_ok]
          cases d <;> first | rfl | exact absurd rfl (hne _)
        · cases h
      · cases h
    · cases h
  · cases h

theorem invoke_call (ρ : Operand → Value) (o : Oper) (c : Call) (ho : o.op = .call c) (r : Operand) (name : String) (hc : c.callee = .invoke r name) (P : Program) (t : TypeId) (v : Value) (f : Nat) (hr : ρ r = .iface t v) (hm : methodOf P t name = some f) (w : World) :
    (execOp ρ o).run P w = (callFunc f (#[v] ++ c.args.map ρ)).run P w := by
  unfold execOp
  simp only [ho, resolve, hc, hr, Sem.run_bind, Sem.run_pure, Result.andThen_ok, invoke, callMethod]
  have h0 : P.types.size + Made.depth = (P.types.size + 99) + 1 := rfl
  have hx : (#[Value.iface t v] ++ c.args.map ρ)[0]? = some (.iface t v) := by rw [Array.getElem?_append_left (by simp)]; rfl
  have hy : (#[Value.iface t v] ++ c.args.map ρ).extract 1 (#[Value.iface t v] ++ c.args.map ρ).size = c.args.map ρ := by
    apply Array.ext'
    simp
    exact List.take_of_length_le (by simp)
  simp only [hx, hy]
  simp only [Sem.run_bind, run_program, Result.andThen_ok]
  rw [h0, methodOf_ok hm]
  simp only [Result.andThen_ok]

theorem evL_arr {S : St T} {a : Act} {I : Nat → Prop} {w : World} (hS : FrOK S a I w) {xs : Array Operand} {ys : List (SV T)} (h : evL S xs.toList = some ys) : xs.map a.eval = (SV.toVL ys).toArray ∧ SV.validL I w ys := by
  obtain ⟨h1, h2⟩ := evL_ok hS _ _ h
  exact ⟨by apply Array.ext'; simpa using h1, h2⟩

theorem toVL_append (a b : List (SV T)) : SV.toVL (a ++ b) = SV.toVL a ++ SV.toVL b := by
  induction a with
  | nil => rfl
  | cons x r ih => simp [SV.toVL, ih]
theorem sv_validL_append (I : Nat → Prop) (w : World) (a b : List (SV T)) : SV.validL I w (a ++ b) ↔ SV.validL I w a ∧ SV.validL I w b := by
  induction a with
  | nil => simp [SV.validL]
  | cons x r ih => simp [SV.validL, ih, and_assoc]

theorem opx_ok {C : Ctx T} (hz : ZOK C) {sp : Nat → Option (PT T)} (hsp : ∀ f pt, sp f = some pt → SpecOK C f pt) {o : Oper} {S : St T} {a : Act} {w : World} {next : St T → VCT} {pan : SV T → St T → VCT}
    (hS : FrOK S a (Owns S.H) w) (hH : HOK C S.H w) (h : (opx C sp o S next pan).den) : Goes C o S a w next pan := by
  unfold opx at h
  split at h
  · exact still_goes hz hS hH h
  split at h
  · -- alloc
    rename_i t hop
    split at h
    · rename_i segs hzt
      have h := h w.heap.size
      obtain ⟨zv, hz1, hz2⟩ := zero_run hz hzt w
      obtain ⟨hH', hst⟩ := alloc_step hH t segs ((hz t segs hzt).2 _ _)
      refine goes_run (v := .pointer (some ⟨w.heap.size, 0, none⟩)) ?_ h (leads_put (x := .p S.H.length w.heap.size (.lit 0)) hS (S1 := S.push _) rfl hH' hst trivial)
      unfold execOp
      simp only [hop]
      simp [Instr.alloc, hz1, newVar, newRow, hz2]
    · exact h.elim
  · -- box
    rename_i t x hop
    split at h
    · exact h.elim
    · exact h.elim
    · rename_i y hnt hnu hy
      have h := h w.heap.size
      obtain ⟨h1, h2⟩ := ev_ok hS hy
      obtain ⟨hc, hvs⟩ := seg_cells_toV h2 (fun xs hx => hnt xs hx) (fun hx => hnu hx)
      obtain ⟨hH', hst⟩ := alloc_step hH t y.segs hvs
      refine goes_run (v := .pointer (some ⟨w.heap.size, 0, none⟩)) ?_ h (leads_put (x := .p S.H.length w.heap.size (.lit 0)) hS (S1 := S.push _) rfl hH' hst trivial)
      unfold execOp
      simp only [hop, h1]
      simp [Instr.box, newVar, newRow, hc]
    · exact h.elim
  · -- store
    rename_i t x y hop
    split at h
    · exact h.elim
    · exact h.elim
    · rename_i u v hnt hnu hu hv
      obtain ⟨h1, h2⟩ := ev_ok hS hu
      obtain ⟨h3, h4⟩ := ev_ok hS hv
      have hp : v.isPart = true := by cases v <;> first | rfl | exact (hnt _ rfl).elim | exact (hnu rfl).elim
      obtain ⟨S', w', hn, hrun, hfr, hH', hst⟩ := ptrStore_ok hH h4 hp h
      intro nx Q g1 g2
      unfold Oper.wp
      have hr : (execOp a.eval o).run C.P w = .ok .skip w' := by
        unfold execOp
        simp only [hop, h1, h3, Sem.run_bind, hrun, Result.andThen_ok, Sem.run_pure]
      rw [hr, Oper.upon_skip]
      exact g1 _ _ w' hn (leads_put (x := .un) hS hfr hH' hst trivial)
    · exact h.elim
  · -- buildSlice
    rename_i t len ps hop
    split at h
    · rename_i e hd
      split at h
      · rename_i z l n hzt hl hn
        split at h
        · rename_i hc
          obtain ⟨hc1, hc2, hc3⟩ := hc
          split at h
          · rename_i segs hb
            have h := h w.heap.size
            obtain ⟨h1, h2⟩ := evP_ok hS _ _ hl
            obtain ⟨zv, hz1, hz2⟩ := zero_run hz hzt w
            have hzv := (hz e z hzt).2 (Owns S.H) w
            have hzl := cellsL_length z hzv
            have hrep : ∀ k, Seg.validL (Owns S.H) w (List.replicate k z).flatten ∧ Seg.cellsL (List.replicate k z).flatten = (List.replicate k (Seg.cellsL z)).flatten := by
              intro k
              induction k with
              | zero => exact ⟨trivial, rfl⟩
              | succ k ih => simp only [List.replicate_succ, List.flatten_cons, validL_append, cellsL_append, ih.2]; exact ⟨⟨hzv, ih.1⟩, trivial⟩
            obtain ⟨h3, h4⟩ := buildA_ok n l _ segs (hrep len).1 h2 hb
            have hparts : ((ps.map fun (i, x) => (i, a.eval x)) : Array (Nat × Value)).toList = l.map fun p => (p.1, p.2.toV) := by
              rw [← h1]; simp
            have hsl := cellsL_length segs h4
            have hzero : ((Array.range (len * n)).map (((Seg.cellsL z).toArray)[· % ((Seg.cellsL z).toArray).size]!)) = (Seg.cellsL (List.replicate len z).flatten).toArray := by
              have hzs : ((Seg.cellsL z).toArray).size = n := by simp [hzl, hc1]
              have := madeCells_flat (Seg.cellsL z).toArray (by rw [hzs]; omega) len
              rw [hzs] at this
              apply Array.ext'
              rw [(hrep len).2]
              unfold madeCells at this
              exact this
            have hrun : (execOp a.eval o).run C.P w = .ok (.value (.slice (some ⟨w.heap.size, 0, none⟩) len len)) (w.alloc (.cells (Seg.cellsL segs).toArray e)) := by
              unfold execOp
              simp only [hop]
              unfold Instr.buildSlice
              simp only [Sem.run_bind, run_underlying hd, Result.andThen_ok, sizeT_run hn]
              rw [if_neg (by omega)]
              by_cases h0 : len * n = 0
              · have hlen0 : len = 0 := by rcases Nat.mul_eq_zero.1 h0 with h | h <;> omega
                subst hlen0
                simp only [Nat.zero_mul, if_true, Sem.run_bind, Sem.run_pure, Result.andThen_ok]
                rw [show ((Array.range 0).map (fun x => (#[] : Array Value)[x % (#[] : Array Value).size]!)) = (Seg.cellsL (List.replicate 0 z).flatten).toArray by simp [Seg.cellsL], hparts, h3]
                simp [newRow]
              · simp only [if_neg h0, Sem.run_bind, hz1, Result.andThen_ok, Sem.run_pure, hz2]
                rw [hzero, hparts, h3]
                simp [newRow]
            have htv : SV.toV (T := T) (.s S.H.length w.heap.size e 0 0 len len) = .slice (some ⟨w.heap.size, 0, none⟩) len len := by simp [SV.toV]
            rw [← htv] at hrun
            split at h
            · rename_i xs hxs
              split at hxs
              · rename_i hne
                obtain ⟨d1, d2⟩ := decL_ok _ _ _ _ hxs
                have hcells : Seg.cellsL ([.r e len xs] : List (Seg T)) = Seg.cellsL segs := by
                  simp only [Seg.cellsL, Seg.cells, List.append_nil, d2]
                  exact List.take_of_length_le (by rw [hsl, hne.2, hne.1]; exact Nat.le_refl _)
                obtain ⟨hH', hst⟩ := alloc_step hH e [.r e len xs] ⟨d1, trivial⟩
                rw [hcells] at hH' hst
                exact goes_run hrun h (leads_put (x := .s S.H.length w.heap.size e 0 0 len len) hS (S1 := S.push _) rfl hH' hst trivial)
              · cases hxs
            · split at h
              · rename_i hne
                obtain ⟨hH', hst⟩ := alloc_step hH e segs h4
                exact goes_run hrun h (leads_put (x := .s S.H.length w.heap.size e 0 0 len len) hS (S1 := S.push _) rfl hH' hst trivial)
              · exact h.elim
          · exact h.elim
        · exact h.elim
      · exact h.elim
    · exact h.elim
  · -- makeSlice
    rename_i t l c hop
    split at h
    · rename_i e n m hd hn hm
      split at h
      · rename_i z by_ sz hzt hb hs
        split at h
        · rename_i hc
          obtain ⟨hc1, hc2⟩ := hc
          subst hc1
          split at h
          · rename_i u hu
            obtain ⟨⟨g1, g2, g3⟩, h⟩ := h
            obtain ⟨kl, hl⟩ := idxInt_ok hS hn
            obtain ⟨kc, hcc⟩ := idxInt_ok hS hm
            have henc := (T.enc e).dec_ok _ _ hu
            obtain ⟨hz0, _⟩ := hz e z hzt
            cases hi : C.P.info? e with
            | none => rw [hi] at hz0; cases hz0
            | some i =>
              rw [hi] at hz0
              simp only [Option.bind_some, Option.map_eq_some_iff] at hz0
              obtain ⟨zv, hzz, hzc⟩ := hz0
              have hby : i.bytes = by_ := by unfold bytesT at hb; rw [hi] at hb; simpa using hb
              have hsz : i.size = szE T e := by unfold sizeT at hs; rw [hi] at hs; simpa using hs
              have hzs : zv.cells.size = szE T e := by
                have := (T.enc e).len u
                rw [← Array.length_toList, hzc, ← henc]; exact this
              have hmk := run_make (P := C.P) w t e i zv hd hi hzz kl kc n m g1 g2 (by
                rw [hby]
                have := g3.2
                have h2 : ((m.toNat * by_ : Nat) : Int) ≤ 140737488355328 := by omega
                rw [Int.natCast_mul, Int.toNat_of_nonneg (by omega), Int.mul_comm] at h2
                omega) (by have := g3.1; omega)
              have h := h (.slice (some ⟨w.heap.size, 0, none⟩) n.toNat m.toNat)
              have hfl : (madeCells zv.cells (m.toNat * i.size)).toList = (List.replicate m.toNat u).flatMap (T.enc e).enc := by
                rw [flat_replicate, henc, ← hzc, hsz, ← hzs]
                exact madeCells_flat zv.cells (by omega) _
              have hown : (w.alloc (.cells (madeCells zv.cells (m.toNat * i.size)) e)).ownsRow 0 e (szE T e) (.slice (some ⟨w.heap.size, 0, none⟩) n.toNat m.toNat) (List.replicate n.toNat u).length ((List.replicate n.toNat u).flatMap (T.enc e).enc) := by
                refine ⟨enc_flat_length e _, .inr ⟨w.heap.size, m.toNat, madeCells zv.cells (m.toNat * i.size), by simp, Nat.zero_le _, ?_, by simp; omega, g3.1, by rw [size_madeCells, hsz], ?_⟩⟩
                · show (w.heap.push _)[w.heap.size]? = _
                  simp
                · rw [hfl, List.length_replicate, flat_take, List.take_replicate, Nat.min_eq_left (by omega)]
              obtain ⟨hH', hst⟩ := hH.push (.O (.slice (some ⟨w.heap.size, 0, none⟩) n.toNat m.toNat) e (List.replicate n.toNat u)) (w' := w.alloc (.cells (madeCells zv.cells (m.toNat * i.size)) e)) rfl rfl rfl (by simp) (fun k hk => by
                show (w.heap.push _)[k]? = _
                rw [Array.getElem?_push, if_neg (by omega)]) (fun k hk => by
                simp only [Ent.has, Value.ownBlock, Option.some.injEq] at hk; subst hk; simp) (fun I s => hown)
              refine goes_run (v := .slice (some ⟨w.heap.size, 0, none⟩) n.toNat m.toNat) ?_ h (leads_put (x := .o S.H.length e _ n.toNat) hS (S1 := S.push _) rfl hH' hst ⟨_, _, rfl⟩)
              unfold execOp
              simp only [hop, hl, hcc]
              simp only [Sem.run_bind, hmk, Result.andThen_ok, Sem.run_pure]
          · exact h.elim
        · exact h.elim
      · exact h.elim
    · exact h.elim
  · exact h.elim
  · -- panic
    rename_i x hop
    split at h
    · rename_i t y hx
      obtain ⟨h1, h2⟩ := ev_ok hS hx
      intro nx Q g1 g2
      unfold Oper.wp
      have hr : (execOp a.eval o).run C.P w = .halt (.panic (SV.toV (T := T) (.i t y))) w := by
        unfold execOp
        simp only [hop, h1, Sem.run_bind]
        rfl
      rw [hr, Oper.upon_panic]
      exact g2 (.i t y) S w h h2 hS hH (Stp.refl _ _)
    · rename_i t y hx
      obtain ⟨h1, h2⟩ := ev_ok hS hx
      intro nx Q g1 g2
      unfold Oper.wp
      have hr : (execOp a.eval o).run C.P w = .halt (.panic (SV.toV (T := T) (.v (.iface t y)))) w := by
        unfold execOp
        simp only [hop, h1, Sem.run_bind]
        rfl
      rw [hr, Oper.upon_panic]
      exact g2 (.v (.iface t y)) S w h h2 hS hH (Stp.refl _ _)
    · exact h.elim
  · -- call
    rename_i c hop
    split at h
    · -- append
      rename_i hcal
      split at h
      · rename_i x y t t' hargs hts
        split at h
        · rename_i htt
          subst htt
          split at h
          · rename_i u v hu hv
            obtain ⟨h1, h2⟩ := ev_ok hS hu
            obtain ⟨h3, h4⟩ := ev_ok hS hv
            obtain ⟨S', r, w', hn, hrun, hl⟩ := appendK_ok (ty := o.type) hS hH h2 h4 h
            refine goes_run ?_ hn hl
            obtain ⟨cal, args, ts⟩ := c
            simp only at hcal hargs hts
            subst hcal
            have ha : args = #[x, y] := by apply Array.ext'; simpa using hargs
            have hb : ts = #[t, t] := by apply Array.ext'; simpa using hts
            subst ha hb
            rw [builtin_exec _ _ _ _ _ hop]
            simp only [builtin, List.map_toArray, List.map_cons, List.map_nil, h1, h3, Sem.run_bind, hrun, Result.andThen_ok, Sem.run_pure]
          · exact h.elim
        · exact h.elim
      · exact h.elim
    · -- copy
      rename_i hcal
      split at h
      · rename_i x y t t' hargs hts
        split at h
        · rename_i htt
          subst htt
          split at h
          · rename_i u v hu hv
            obtain ⟨h1, h2⟩ := ev_ok hS hu
            obtain ⟨h3, h4⟩ := ev_ok hS hv
            obtain ⟨S', r, w', hn, hrun, hl⟩ := copyK_ok (ty := o.type) hS hH h2 h4 h
            refine goes_run ?_ hn hl
            obtain ⟨cal, args, ts⟩ := c
            simp only at hcal hargs hts
            subst hcal
            have ha : args = #[x, y] := by apply Array.ext'; simpa using hargs
            have hb : ts = #[t, t] := by apply Array.ext'; simpa using hts
            subst ha hb
            rw [builtin_exec _ _ _ _ _ hop]
            simp only [builtin, List.map_toArray, List.map_cons, List.map_nil, h1, h3, Sem.run_bind, hrun, Result.andThen_ok, Sem.run_pure]
          · exact h.elim
        · exact h.elim
      · exact h.elim
    · exact h.elim
    · rename_i f hcal
      split at h
      · rename_i args hargs
        obtain ⟨h1, h2⟩ := evL_arr hS hargs
        exact call_goes hsp hS hH h2 rfl (by rw [value_call _ _ c hop _ hcal f #[] #[] rfl, h1]; simp) h
      · exact h.elim
    · rename_i g _ hcal
      split at h
      · rename_i f p q args hg hargs
        obtain ⟨h1, h2⟩ := evL_arr hS hargs
        obtain ⟨h3, h4⟩ := ev_ok hS hg
        refine call_goes hsp hS hH ?_ rfl (by rw [value_call _ _ c hop _ hcal f (SV.toVL p).toArray (SV.toVL q).toArray h3, h1]; simp [toVL_append]) h
        rw [sv_validL_append, sv_validL_append]
        exact ⟨⟨h4.1, h2⟩, h4.2⟩
      · rename_i f p q args hg hargs
        obtain ⟨h1, h2⟩ := evL_arr hS hargs
        obtain ⟨h3, h4⟩ := ev_ok hS hg
        split at h
        · rename_i hpq
          have hp : p = #[] := Array.eq_empty_of_size_eq_zero hpq.1
          have hq : q = #[] := Array.eq_empty_of_size_eq_zero hpq.2
          subst hp hq
          exact call_goes hsp hS hH h2 rfl (by rw [value_call _ _ c hop _ hcal f #[] #[] h3, h1]; simp) h
        · exact h.elim
      · exact h.elim
    · rename_i r name hcal
      split at h
      · rename_i t y args hr hargs
        obtain ⟨h1, h2⟩ := evL_arr hS hargs
        obtain ⟨h3, h4⟩ := ev_ok hS hr
        split at h
        · rename_i f hm
          exact call_goes hsp hS hH (show SV.validL _ _ (y :: args) from ⟨h4, h2⟩) rfl (by rw [invoke_call _ _ c hop _ _ hcal _ t _ f h3 hm, h1]; simp [SV.toVL]) h
        · exact h.elim
      · rename_i t y args hr hargs
        obtain ⟨h1, h2⟩ := evL_arr hS hargs
        obtain ⟨h3, h4⟩ := ev_ok hS hr
        split at h
        · rename_i f hm
          split at h
          · rename_i hy1
            exact call_goes hsp hS hH (show SV.validL _ _ (.v y :: args) from ⟨hy1, h2⟩) rfl (by rw [invoke_call _ _ c hop _ _ hcal _ t _ f h3 hm, h1]; simp [SV.toVL, SV.toV]) h
          · exact h.elim
        · exact h.elim
      · exact h.elim
  · exact h.elim
end Go.Vg
