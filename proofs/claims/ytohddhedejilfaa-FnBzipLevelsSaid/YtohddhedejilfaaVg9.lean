/-
  The generator's soundness, part 6: every operation that leaves memory alone.
-/
import Derived.Test.YtohddhedejilfaaVg8
set_option linter.unusedVariables false
namespace Go.Vg
variable {T : Tys}

theorem br_split {t : Bool} {a b : VCT} (h : (VCT.br t a b).den) : (t = true → a.den) ∧ (t = false → b.den) := by
  cases t
  · exact ⟨fun h => (by cases h), fun _ => h⟩
  · exact ⟨fun _ => h, fun h => (by cases h)⟩

theorem execOp_bin (ρ : Operand → Value) (o : Oper) (op : BinOp) (xt yt : TypeId) (x y : Operand) (ho : o.op = .binOp op xt x y yt) (P : Program) (w : World) {v : Value}
    (hg : (eqGuard op xt x y (ρ x) (ρ y)).run P w = .ok () w) (hb : (binOp op xt (ρ x) (ρ y)).run P w = .ok v w) : (execOp ρ o).run P w = .ok (.value v) w := by
  unfold execOp
  simp only [ho, Sem.run_bind, hg, hb, Result.andThen_ok, Sem.run_pure]

theorem int_guard {P : Program} {w : World} (op : BinOp) (t : TypeId) (x y : Operand) (k k' : IntKind) (p q : Int) : (eqGuard op t x y (.int k p) (.int k' q)).run P w = .ok () w :=
  eqGuard_plain op t x y (fun h => by cases h) (fun _ _ h => by cases h)

theorem part_row {P : Program} {w : World} {I : Nat → Prop} {t e : TypeId} {l : List (T.El e)} {i : Nat} {k : SV T → VCT} (hs : sizeT P t = some (szE T e)) (h : (elemK P t e l i 0 k).den) :
    ∃ y, (k y).den ∧ y.valid I w ∧ (part t (l.flatMap (T.enc e).enc).toArray (i * szE T e)).run P w = .ok y.toV w := by
  obtain ⟨hi, h⟩ := h
  have hy : l[i]? = some l[i] := List.getElem?_eq_getElem hi
  have h := h l[i] hy
  have hx : ((T.enc e).enc l[i]).length = szE T e := (T.enc e).len _
  split at h
  · rename_i z hz
    refine ⟨z, h, ?_⟩
    unfold readE at hz
    unfold part
    split at hz
    · rename_i n ha hn
      rw [hs] at hn
      simp only [Option.some.injEq] at hn; subst hn
      split at hz
      · simp only [Option.some.injEq] at hz; subst hz
        refine ⟨validL_vs _ (fun v hv => (T.enc e).one _ v (List.mem_of_mem_drop (List.mem_of_mem_take hv))), ?_⟩
        simp only [Sem.run_bind, isAggT_run ha, Result.andThen_ok, if_true, sizeT_run hs, Sem.run_pure, SV.toV, cellsL_vs]
        congr 2
        apply Array.ext'
        simp only [Array.toList_extract, List.extract_eq_take_drop, Nat.add_sub_cancel_left, List.drop_zero]
        rw [List.take_of_length_le (l := (T.enc e).enc l[i]) (by omega)]
        apply List.ext_getElem?
        intro j
        rw [List.getElem?_take, List.getElem?_drop]
        split
        · exact flat_get e l i j _ hy (by assumption)
        · rw [List.getElem?_eq_none (by omega)]
      · cases hz
    · rename_i ha
      simp only [Option.map_eq_some_iff] at hz
      obtain ⟨v, hv, rfl⟩ := hz
      have h0 : 0 < szE T e := by
        rcases Nat.eq_zero_or_pos (szE T e) with h0 | h0
        · rw [List.getElem?_eq_none (by omega)] at hv; cases hv
        · exact h0
      refine ⟨(T.enc e).one _ v (List.mem_of_getElem? hv), ?_⟩
      have := flat_get e l i 0 _ hy h0
      rw [Nat.add_zero, hv] at this
      simp only [Sem.run_bind, isAggT_run ha, Result.andThen_ok]
      simp [this, SV.toV]
    · cases hz
  · exact h.elim

theorem stx_ok {C : Ctx T} (hz : ZOK C) {o : Oper} {S : St T} {c : SV T → VCT} {a : Act} {w : World} (hS : FrOK S a (Owns S.H) w) (hH : HOK C S.H w) (h : (stx C o S c).den) : Gives C o S a w c := by
  have hsel : ∀ {cs b}, o.op = .select cs b → False := by
    intro cs b hop
    unfold stx at h
    rw [hop] at h
    exact h
  have hsel' : ∀ cs b, o.op ≠ .select cs b := fun cs b hop => hsel hop
  have h0 := h
  unfold stx at h
  split at h
  · -- move
    rename_i x hop
    split at h
    · rename_i y hy
      obtain ⟨h1, h2⟩ := ev_ok hS hy
      exact ⟨y, h, h2, by unfold execOp; simp only [hop, h1]; rfl⟩
    · exact h.elim
  · rename_i x hop
    split at h
    · rename_i y hy
      obtain ⟨h1, h2⟩ := ev_ok hS hy
      exact ⟨y, h, h2, by unfold execOp; simp only [hop, h1]; rfl⟩
    · exact h.elim
  · -- pick
    rename_i b x y hop
    split at h
    · rename_i t hb
      have h1 := (ev_ok hS hb).1
      obtain ⟨ha, hb'⟩ := br_split h
      cases t
      · have h := hb' rfl
        split at h
        · rename_i u hu
          obtain ⟨h3, h4⟩ := ev_ok hS hu
          refine ⟨u, h, h4, ?_⟩
          unfold execOp
          simp only [hop, h1, SV.toV, asBool, Sem.run_bind, Sem.run_pure, Result.andThen_ok, h3]; rfl
        · exact h.elim
      · have h := ha rfl
        split at h
        · rename_i u hu
          obtain ⟨h3, h4⟩ := ev_ok hS hu
          refine ⟨u, h, h4, ?_⟩
          unfold execOp
          simp only [hop, h1, SV.toV, asBool, Sem.run_bind, Sem.run_pure, Result.andThen_ok, h3]; rfl
        · exact h.elim
    · exact h.elim
  · -- nilCheck
    rename_i x hop
    split at h
    · rename_i hh b o' hx
      obtain ⟨h1, h2⟩ := ev_ok hS hx
      exact ⟨_, h, trivial, by unfold execOp; simp only [hop, h1, SV.toV]; rfl⟩
    · rename_i t y hx
      obtain ⟨h1, h2⟩ := ev_ok hS hx
      exact ⟨_, h, h2, by unfold execOp; simp only [hop, h1, SV.toV]; rfl⟩
    · rename_i hh e v i f hx
      obtain ⟨h1, h2⟩ := ev_ok hS hx
      split at h
      · rename_i v' e' l he
        have hok := ent_ok hH hh
        rw [he] at hok
        split at h
        · rename_i hee
          subst hee
          obtain ⟨⟨rfl, hi⟩, h⟩ := h
          obtain ⟨g, cap, rfl, _, _, _⟩ := own_cells hok (by omega)
          exact ⟨_, h, trivial, by unfold execOp; simp only [hop, h1, SV.toV, addrOf]; rfl⟩
        · exact h.elim
      · exact h.elim
    · rename_i e v l i f hx
      obtain ⟨h1, h2⟩ := ev_ok hS hx
      obtain ⟨hi, h⟩ := h
      have h2' := h2
      obtain ⟨A, cap, rfl, _, _, hro⟩ := h2
      obtain ⟨ad, rfl, _⟩ := hro (by omega)
      exact ⟨_, h, h2', by unfold execOp; simp only [hop, h1, SV.toV, addrOf]; rfl⟩
    · rename_i g p q hx
      obtain ⟨h1, h2⟩ := ev_ok hS hx
      exact ⟨_, h, h2, by unfold execOp; simp only [hop, h1, SV.toV]; rfl⟩
    · exact generic_ok hS hsel' h
  · -- fieldAddr
    rename_i st x i hop
    split at h
    · rename_i f hf
      split at h
      · rename_i n hn
        split at h
        · exact h.elim
        · rename_i hn0
          split at h
          · rename_i hh b o' hx
            obtain ⟨h1, h2⟩ := ev_ok hS hx
            refine ⟨_, h, trivial, ?_⟩
            unfold execOp
            simp only [hop, h1, SV.toV]
            rw [← off_add]
            exact lift_val (fieldAt_ok hf hn hn0 _)
          · rename_i hh e v ii fl hx
            obtain ⟨h1, h2⟩ := ev_ok hS hx
            split at h
            · rename_i v' e' l he
              have hok := ent_ok hH hh
              rw [he] at hok
              split at h
              · rename_i hee
                subst hee
                obtain ⟨⟨rfl, hi⟩, h⟩ := h
                obtain ⟨g, cap, rfl, _, _, _⟩ := own_cells hok (by omega)
                refine ⟨_, h, trivial, ?_⟩
                unfold execOp
                simp only [hop, h1, SV.toV, addrOf]
                have hfa := fieldAt_ok (w := w) hf hn hn0 ((⟨g, 0, none⟩ : Addr).add (ii * (T.enc e).sz + fl))
                rw [addr_add_add, Nat.add_assoc] at hfa
                exact lift_val hfa
              · exact h.elim
            · exact h.elim
          · rename_i e v l ii fl hx
            obtain ⟨h1, h2⟩ := ev_ok hS hx
            obtain ⟨hi, h⟩ := h
            have h2' := h2
            obtain ⟨A, cap, rfl, _, _, hro⟩ := h2
            obtain ⟨ad, rfl, _⟩ := hro (by omega)
            refine ⟨_, h, h2', ?_⟩
            unfold execOp
            simp only [hop, h1, SV.toV, addrOf]
            have hfa := fieldAt_ok (w := w) hf hn hn0 (ad.add (ii * (T.enc e).sz + fl))
            rw [addr_add_add, Nat.add_assoc] at hfa
            exact lift_val hfa
          · exact h.elim
      · exact h.elim
    · exact h.elim
  · -- load
    rename_i t x hop
    split at h
    · rename_i y hy
      obtain ⟨h1, h2⟩ := ev_ok hS hy
      obtain ⟨z, hz1, hz2, hz3⟩ := ptrLoad_ok hH h2 h
      refine ⟨z, hz1, hz2, ?_⟩
      unfold execOp
      simp only [hop, h1]
      exact lift_val hz3
    · exact h.elim
  · -- binOp
    rename_i op xt x y yt hop
    split at h
    · rename_i k p k' q hx hy
      have h1 := (ev_ok hS hx).1
      have h2 := (ev_ok hS hy).1
      simp only [SV.toV] at h1 h2
      split at h
      · obtain ⟨hq, h⟩ := h
        refine ⟨_, h, rfl, execOp_bin _ _ _ _ _ _ _ hop _ _ (by rw [h1, h2]; exact int_guard _ _ _ _ _ _ _ _) ?_⟩
        rw [h1, h2]
        simp only [binOp, Op.shift]
        rw [if_neg (by omega)]; rfl
      · obtain ⟨hq, h⟩ := h
        refine ⟨_, h, rfl, execOp_bin _ _ _ _ _ _ _ hop _ _ (by rw [h1, h2]; exact int_guard _ _ _ _ _ _ _ _) ?_⟩
        rw [h1, h2]
        simp only [binOp, Op.shift]
        rw [if_neg (by omega)]; rfl
      · rename_i hs1 hs2
        split at h
        · rename_i hk
          subst hk
          obtain ⟨z, hz1, hz2, hz3⟩ := binInt_ok (C := C) (xt := xt) (I := Owns S.H) (w := w) ⟨hs1, hs2⟩ h
          exact ⟨z, hz1, hz2, execOp_bin _ _ _ _ _ _ _ hop _ _ (by rw [h1, h2]; exact int_guard _ _ _ _ _ _ _ _) (by rw [h1, h2]; exact hz3)⟩
        · exact h.elim
    · exact generic_ok hS hsel' h
    · rename_i u v _ _ hx hy
      have h1 := (ev_ok hS hx).1
      have h2 := (ev_ok hS hy).1
      split at h
      · rename_i hnf
        obtain ⟨e1, e2, e3⟩ := nilFits_ok hnf w x y op
        split at h
        · exact ⟨_, h, rfl, execOp_bin _ _ _ _ _ _ _ hop _ _ (by rw [h1, h2]; exact e1) (by rw [h1, h2]; exact e2)⟩
        · exact ⟨_, h, rfl, execOp_bin _ _ _ _ _ _ _ hop _ _ (by rw [h1, h2]; exact e1) (by rw [h1, h2]; exact e3)⟩
        · exact h.elim
      · exact h.elim
    · exact h.elim
  · -- unOp
    rename_i op xt x hop
    split at h
    · rename_i k p hx
      have h1 := (ev_ok hS hx).1
      simp only [SV.toV] at h1
      split at h
      · obtain ⟨z, hz1, hz2, hz3⟩ := arith_ok (I := Owns S.H) (w := w) h
        refine ⟨z, hz1, hz2, ?_⟩
        unfold execOp
        simp only [hop, h1]
        refine lift_val ?_
        rw [hz3]; simp [Op.unary, Op.intArith]
      · refine ⟨_, h, rfl, ?_⟩
        unfold execOp
        simp only [hop, h1]
        refine lift_val ?_
        simp [Op.unary, Op.intBits, SV.toV, bitI]
      · exact h.elim
    · rename_i b hx
      have h1 := (ev_ok hS hx).1
      simp only [SV.toV] at h1
      split at h
      · refine ⟨_, h, rfl, ?_⟩
        unfold execOp
        simp only [hop, h1]
        exact lift_val rfl
      · exact h.elim
    · exact h.elim
  · -- convert
    rename_i src dst x hop
    split at h
    · rename_i k n hx
      have h1 := (ev_ok hS hx).1
      simp only [SV.toV] at h1
      have key : ∀ d k', C.P.underlying src = some d → C.P.underlying dst = some (.int k') → (convert src dst (.int k n)).run C.P w = .ok (.int k' (k'.wrap n)) w := by
        intro d k' hs hd
        unfold convert
        simp only [Sem.run_bind, run_underlying hs, run_underlying hd, Result.andThen_ok]
        rfl
      split at h
      · rename_i d hs hd
        obtain ⟨⟨g1, g2⟩, h⟩ := h
        refine ⟨_, h, rfl, ?_⟩
        unfold execOp
        simp only [hop, h1]
        refine lift_val ?_
        rw [key _ _ hs hd]
        have : IntKind.i64.wrap n = n := by
          simp only [IntKind.wrap, IntKind.bits, IntKind.signed, Bool.true_and]
          split <;> (rename_i h3; simp at h3; omega)
        rw [this]; rfl
      · rename_i d k' _ hs hd
        refine ⟨_, h, rfl, ?_⟩
        unfold execOp
        simp only [hop, h1]
        exact lift_val (key _ _ hs hd)
      · exact h.elim
    · exact generic_ok hS hsel' h
  · -- makeInterface
    rename_i t x hop
    have key : ∀ d, C.P.underlying t = some d → (∀ ms, d ≠ .interface ms) → ∀ v, (Instr.makeInterface t v).run C.P w = .ok (.iface t v) w := by
      intro d hd hne v
      unfold Instr.makeInterface
      simp only [Sem.run_bind, run_underlying hd, Result.andThen_ok]
      cases d <;> first | rfl | exact absurd rfl (hne _)
    split at h
    · exact h.elim
    · rename_i d y hne hd hy
      obtain ⟨h1, h2⟩ := ev_ok hS hy
      refine ⟨_, h, rfl, ?_⟩
      unfold execOp
      simp only [hop, h1]
      exact lift_val (key d hd (fun ms hm => by subst hm; exact hne ms rfl) _)
    · rename_i d y hne hnv hd hy
      obtain ⟨h1, h2⟩ := ev_ok hS hy
      refine ⟨_, h, h2, ?_⟩
      unfold execOp
      simp only [hop, h1]
      exact lift_val (key d hd (fun ms hm => by subst hm; exact hne ms rfl) _)
    · exact h.elim
  · -- makeFunc
    rename_i fn p q hop
    split at h
    · rename_i x y hx hy
      obtain ⟨h1, h2⟩ := evL_ok hS _ _ hx
      obtain ⟨h3, h4⟩ := evL_ok hS _ _ hy
      refine ⟨_, h, ⟨h2, h4⟩, ?_⟩
      unfold execOp
      simp only [hop]
      refine lift_val ?_
      simp only [Instr.makeFunc, SV.toV, ← h1, ← h3, Sem.run_pure]
      congr 2 <;> (apply Array.ext'; simp)
    · exact h.elim
  · -- extract
    rename_i x i hop
    split at h
    · rename_i xs hx
      obtain ⟨h1, h2⟩ := ev_ok hS hx
      split at h
      · rename_i y hy
        have key : ∀ (xs : List (SV T)) (i : Nat) y, SV.validL (Owns S.H) w xs → xs[i]? = some y → (SV.toVL xs)[i]? = some y.toV ∧ y.valid (Owns S.H) w := by
          intro xs
          induction xs with
          | nil => intro i y _ h; simp at h
          | cons z r ih =>
            intro i y hv h
            cases i with
            | zero => simp at h; subst h; exact ⟨by simp [SV.toVL], hv.1⟩
            | succ i => simp at h; have := ih i y hv.2 h; exact ⟨by simpa [SV.toVL] using this.1, this.2⟩
        obtain ⟨h3, h4⟩ := key xs i y h2 hy
        refine ⟨_, h, h4, ?_⟩
        unfold execOp
        simp only [hop, h1, SV.toV]
        refine lift_val ?_
        simp [Instr.extract, h3]
      · exact h.elim
    · exact generic_ok hS hsel' h
  · -- field
    rename_i t x i hop
    split at h
    · rename_i segs hx
      obtain ⟨h1, h2⟩ := ev_ok hS hx
      split at h
      · rename_i f hf
        split at h
        · rename_i y hy
          obtain ⟨h3, h4⟩ := fieldS_ok hf h2 hy
          refine ⟨_, h, h4, ?_⟩
          unfold execOp
          simp only [hop, h1, SV.toV]
          exact lift_val h3
        · exact h.elim
      · exact h.elim
    · exact generic_ok hS hsel' h
  · -- build
    rename_i t ps hop
    split at h
    · rename_i l z hl hzt
      obtain ⟨h1, h2⟩ := evP_ok hS _ _ hl
      obtain ⟨zv, hz1, hz2⟩ := zero_run hz hzt w
      have hzv := (hz t z hzt).2 (Owns S.H) w
      have hparts : ((ps.map fun (i, x) => (i, a.eval x)) : Array (Nat × Value)).toList = l.map fun p => (p.1, p.2.toV) := by
        rw [← h1]; simp
      split at h
      · rename_i fs hd
        split at h
        · rename_i places hpl
          split at h
          · rename_i segs hb
            obtain ⟨h3, h4⟩ := buildS_ok places l z segs hzv h2 hb
            refine ⟨_, h, h4, ?_⟩
            unfold execOp
            simp only [hop]
            refine lift_val ?_
            unfold Instr.build
            simp [hz1, run_underlying hd, Array.mapM_eq_mapM_toList, run_places w _ _ hpl, hz2, SV.toV]
            rw [h1, h3]; rfl
          · exact h.elim
        · exact h.elim
      · rename_i e n hd
        split at h
        · rename_i sz hsz
          split at h
          · rename_i segs hb
            obtain ⟨h3, h4⟩ := buildA_ok sz l z segs hzv h2 hb
            refine ⟨_, h, h4, ?_⟩
            unfold execOp
            simp only [hop]
            refine lift_val ?_
            unfold Instr.build
            simp only [Sem.run_bind, hz1, Result.andThen_ok, run_underlying hd, sizeT_run hsz, hz2, hparts, h3]
            rfl
          · exact h.elim
        · exact h.elim
      · exact h.elim
    · exact h.elim
  · -- indexAddr
    rename_i t x i hop
    split at h
    · rename_i y n hx hi
      obtain ⟨h1, h2⟩ := ev_ok hS hx
      obtain ⟨k, hk⟩ := idxInt_ok hS hi
      obtain ⟨z, hz1, hz2, hz3⟩ := idxAddr_ok (k := k) hH h2 h
      refine ⟨z, hz1, hz2, ?_⟩
      unfold execOp
      simp only [hop, h1, hk]
      exact lift_val hz3
    · exact h.elim
  · -- index
    rename_i t x i hop
    split at h
    · rename_i e kk l n hx hi
      obtain ⟨h1, h2⟩ := ev_ok hS hx
      obtain ⟨k, hk⟩ := idxInt_ok hS hi
      split at h
      · rename_i len e' hd
        split at h
        · rename_i hsz
          obtain ⟨hn, h⟩ := h
          obtain ⟨z, hz1, hz2, hz3⟩ := part_row (w := w) (I := Owns S.H) hsz.1 h
          refine ⟨z, hz1, hz2, ?_⟩
          unfold execOp
          simp only [hop, h1, hk]
          refine lift_val ?_
          have hl : l.length = kk := h2.1
          have hlt : n < (len : Int) := by have := h.1; rw [hsz.2]; omega
          unfold Instr.index
          simp only [Sem.run_bind, asIntOf, Sem.run_pure, Result.andThen_ok, run_underlying hd, SV.toV, Seg.cellsL, Seg.cells, List.append_nil, Sem.run_ite, sizeT_run hsz.1]
          rw [if_pos ⟨hn, hlt⟩]
          exact hz3
        · exact h.elim
      · exact h.elim
    · exact generic_ok hS hsel' h
  · -- slice
    rename_i t x lo hi mx hop
    split at h
    · rename_i y hx
      obtain ⟨h1, h2⟩ := ev_ok hS hx
      obtain ⟨z, hz1, hz2, hz3⟩ := slicing_ok hS hH h2 h
      refine ⟨z, hz1, hz2, ?_⟩
      unfold execOp
      simp only [hop, h1]
      exact lift_val hz3
    · exact h.elim
  · -- typeAssert
    rename_i x xt asserted ok hop
    split at h
    · rename_i t y hx
      obtain ⟨h1, h2⟩ := ev_ok hS hx
      obtain ⟨z, hz1, hz2, hz3⟩ := assertV_ok (x := .i t y) (inner := y) (xt := xt) (I := Owns S.H) (w := w) rfl h2 h2 h
      refine ⟨z, hz1, hz2, ?_⟩
      unfold execOp
      simp only [hop, h1]
      exact lift_val hz3
    · rename_i t y hx
      obtain ⟨h1, h2⟩ := ev_ok hS hx
      split at h
      · rename_i hy1
        obtain ⟨z, hz1, hz2, hz3⟩ := assertV_ok (x := .v (.iface t y)) (inner := .v y) (xt := xt) (I := Owns S.H) (w := w) rfl h2 hy1 h
        refine ⟨z, hz1, hz2, ?_⟩
        unfold execOp
        simp only [hop, h1]
        exact lift_val hz3
      · exact h.elim
    · exact generic_ok hS hsel' h
  · -- len
    rename_i args ts hop
    exact len_ok hS hop h0
  · -- cap
    rename_i args ts hop
    split at h
    · rename_i x t hx ht
      have hargs : args = #[x] := by apply Array.ext'; simpa using hx
      have hts : ts = #[t] := by apply Array.ext'; simpa using ht
      subst hargs hts
      split at h
      · rename_i e y hd hy
        obtain ⟨h1, h2⟩ := ev_ok hS hy
        split at h
        · rename_i n hn
          refine ⟨_, h, rfl, ?_⟩
          rw [builtin_exec _ _ _ _ _ hop]
          have hlen : ∃ A m, y.toV = .slice A m n := by
            unfold capSV at hn
            split at hn
            all_goals first | (cases hn; done) | skip
            all_goals (simp only [Option.some.injEq] at hn; subst hn)
            · exact ⟨_, _, rfl⟩
            · obtain ⟨A, cap, rfl⟩ := h2; exact ⟨_, _, rfl⟩
            · exact ⟨_, _, rfl⟩
          obtain ⟨A, m, hv⟩ := hlen
          simp [builtin, Builtin.cap_, h1, hv, run_underlying hd, SV.toV, goInt]
        · exact h.elim
      · exact generic_ok hS hsel' h
    · exact h.elim
  · -- max
    rename_i args ts hop
    split at h
    · rename_i x y hx
      have hargs : args = #[x, y] := by apply Array.ext'; simpa using hx
      subst hargs
      split at h
      · rename_i k p k' q hx hy
        have h1 := (ev_ok hS hx).1
        have h2 := (ev_ok hS hy).1
        simp only [SV.toV] at h1 h2
        split at h
        · refine ⟨_, h, rfl, ?_⟩
          rw [builtin_exec _ _ _ _ _ hop]
          simp [builtin, Builtin.max_, Builtin.max2, h1, h2, SV.toV, mxI]
        · exact h.elim
      · exact h.elim
    · exact h.elim
  · -- min
    rename_i args ts hop
    split at h
    · rename_i x y hx
      have hargs : args = #[x, y] := by apply Array.ext'; simpa using hx
      subst hargs
      split at h
      · rename_i k p k' q hx hy
        have h1 := (ev_ok hS hx).1
        have h2 := (ev_ok hS hy).1
        simp only [SV.toV] at h1 h2
        split at h
        · refine ⟨_, h, rfl, ?_⟩
          rw [builtin_exec _ _ _ _ _ hop]
          simp [builtin, Builtin.min_, Builtin.min2, h1, h2, SV.toV, mnI]
        · exact h.elim
      · exact h.elim
    · exact h.elim
  · exact h.elim
end Go.Vg
