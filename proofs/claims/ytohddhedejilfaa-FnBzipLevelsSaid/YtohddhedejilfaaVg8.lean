/-
  The generator's soundness, part 5: literals, assertions; all operations that leave memory alone.
-/
import Derived.Test.YtohddhedejilfaaVg7
import Derived.Laws.Tables
set_option linter.unusedVariables false
namespace Go.Vg
variable {T : Tys}

/-- The zero values' pieces are what the program says. -/
def ZOK (C : Ctx T) : Prop := ∀ t z, C.zt t = some z → ((C.P.info? t).bind (·.zero)).map (·.cells.toList) = some (Seg.cellsL z) ∧ ∀ I w, Seg.validL I w z

theorem zero_run {C : Ctx T} (hz : ZOK C) {t : TypeId} {z : List (Seg T)} (h : C.zt t = some z) (w : World) : ∃ v, (zeroValue t).run C.P w = .ok v w ∧ v.cells = (Seg.cellsL z).toArray := by
  obtain ⟨h1, _⟩ := hz t z h
  cases hi : C.P.info? t with
  | none => rw [hi] at h1; cases h1
  | some i =>
    rw [hi] at h1
    simp only [Option.bind_some, Option.map_eq_some_iff] at h1
    obtain ⟨v, hv, h1⟩ := h1
    refine ⟨v, ?_, by rw [← h1]⟩
    simp [zeroValue, typeInfo, hi, hv]

theorem seg_cells_toV {I : Nat → Prop} {w : World} {x : SV T} (h : x.valid I w) (hne : ∀ xs, x ≠ .t xs) (hu : x ≠ .un) : x.toV.cells = (Seg.cellsL x.segs).toArray ∧ Seg.validL I w x.segs := by
  have one : ∀ v : Value, v.oneCell' = true → v.cells = #[v] := by intro v hv; cases v <;> first | rfl | cases hv
  cases x with
  | a xs => exact ⟨rfl, h⟩
  | t xs => exact absurd rfl (hne xs)
  | un => exact absurd rfl hu
  | v x => exact ⟨by simp [SV.segs, Seg.cellsL, Seg.cells, one _ h, SV.toV], ⟨h, h⟩, trivial⟩
  | p _ _ _ => exact ⟨rfl, ⟨trivial, rfl⟩, trivial⟩
  | s _ _ _ _ _ _ _ => exact ⟨rfl, ⟨trivial, rfl⟩, trivial⟩
  | o _ _ x _ =>
    have h' : x.oneCell' = true := by obtain ⟨A, cap, rfl⟩ := h; rfl
    exact ⟨by simp [SV.segs, Seg.cellsL, Seg.cells, SV.toV]; exact one x h', ⟨h, h'⟩, trivial⟩
  | ov _ e x lo hi =>
    have h' : (sliceVal x lo hi (T.enc e).sz).oneCell' = true := by obtain ⟨A, n, cap, rfl⟩ := h; rfl
    exact ⟨by simp [SV.segs, Seg.cellsL, Seg.cells, SV.toV]; exact one _ h', ⟨h, h'⟩, trivial⟩
  | q _ _ _ _ _ => exact ⟨rfl, ⟨trivial, rfl⟩, trivial⟩
  | ro e x l =>
    have h' : x.oneCell' = true := by obtain ⟨A, cap, rfl, _⟩ := h; rfl
    exact ⟨by simp [SV.segs, Seg.cellsL, Seg.cells, SV.toV]; exact one _ h', ⟨h, h'⟩, trivial⟩
  | rq e x l _ _ => exact ⟨rfl, ⟨h, rfl⟩, trivial⟩
  | i t x => exact ⟨rfl, ⟨h, rfl⟩, trivial⟩
  | f _ _ _ => exact ⟨rfl, ⟨h, rfl⟩, trivial⟩

theorem foldl_set (l : List Value) : ∀ (k off : Nat) (cs : Array Value), off + k + l.length ≤ cs.size →
    (l.zipIdx k).foldl (fun cs (c, j) => cs.setIfInBounds (off + j) c) cs = (cs.toList.take (off + k) ++ l ++ cs.toList.drop (off + k + l.length)).toArray := by
  induction l with
  | nil => intro k off cs h; simp
  | cons x r ih =>
    intro k off cs h
    simp only [List.zipIdx_cons, List.foldl_cons]
    simp only [List.length_cons] at h
    rw [ih (k + 1) off _ (by simp; omega)]
    apply Array.ext'
    simp only [Array.toList_setIfInBounds]
    have e1 : (cs.toList.set (off + k) x).take (off + (k + 1)) = cs.toList.take (off + k) ++ [x] := by
      rw [← Nat.add_assoc, List.take_add_one]
      simp only [List.getElem?_set_self (show off + k < cs.toList.length by simp; omega), List.take_set_of_le (Nat.le_refl _), Option.toList_some]
    have e2 : (cs.toList.set (off + k) x).drop (off + (k + 1) + r.length) = cs.toList.drop (off + k + (r.length + 1)) := by
      rw [List.drop_set_of_lt (by omega)]
      congr 1; omega
    rw [e1, e2]; simp

theorem fill_ok {I : Nat → Prop} {w : World} (place : Nat → Option (Nat × Nat)) : ∀ (l : List (Nat × SV T)) (z segs : List (Seg T)) (sz : Nat → Nat) (off : Nat → Nat),
    Seg.validL I w z → (∀ p ∈ l, p.2.valid I w ∧ (∀ xs, p.2 ≠ .t xs) ∧ p.2 ≠ .un ∧ place p.1 = some (off p.1, sz p.1) ∧ segsLen p.2.segs = sz p.1) →
    (l.foldlM (fun z p => putS z (off p.1) (sz p.1) p.2.segs) z) = some segs →
    Instr.fill place (Seg.cellsL z).toArray (l.map fun p => (p.1, p.2.toV)) = some (Seg.cellsL segs).toArray ∧ Seg.validL I w segs := by
  intro l
  induction l with
  | nil =>
    intro z segs sz off hv _ h
    simp only [List.foldlM_nil] at h
    have : z = segs := by simpa using h
    subst this
    exact ⟨rfl, hv⟩
  | cons p r ih =>
    intro z segs sz off hv hp h
    obtain ⟨h1, h2, h2', h3, h4⟩ := hp p (by simp)
    simp only [List.foldlM_cons] at h
    cases hput : putS z (off p.1) (sz p.1) p.2.segs with
    | none => rw [hput] at h; cases h
    | some z' =>
      rw [hput] at h
      obtain ⟨a, m, q, rfl, rfl, ha, hm⟩ := putS_ok _ _ _ _ _ hput
      obtain ⟨c1, c2⟩ := seg_cells_toV h1 h2 h2'
      rw [validL_append, validL_append] at hv
      have la := cellsL_length a hv.1.1
      have lm := cellsL_length m hv.1.2
      have lp := cellsL_length _ c2
      have hv' : Seg.validL I w (a ++ p.2.segs ++ q) := by rw [validL_append, validL_append]; exact ⟨⟨hv.1.1, c2⟩, hv.2⟩
      obtain ⟨e1, e2⟩ := ih (a ++ p.2.segs ++ q) segs sz off hv' (fun p' hp' => hp p' (by simp [hp'])) h
      refine ⟨?_, e2⟩
      rw [← e1]
      simp only [List.map_cons, Instr.fill, h3, c1, List.size_toArray, lp, h4]
      rw [if_neg (by simp [cellsL_append]; omega)]
      congr 1
      have := foldl_set (Seg.cellsL p.2.segs) 0 (off p.1) (Seg.cellsL (a ++ m ++ q)).toArray (by simp [cellsL_append]; omega)
      rw [← Array.foldl_toList]
      simp only [Array.toList_zipIdx]
      rw [this]
      congr 1
      simp only [Nat.add_zero, cellsL_append]
      rw [show off p.1 + (Seg.cellsL p.2.segs).length = (Seg.cellsL a ++ Seg.cellsL m).length by simp; omega, List.drop_left]
      rw [show off p.1 = (Seg.cellsL a).length by omega, List.append_assoc (Seg.cellsL a), List.take_left]

theorem isPart_ok {x : SV T} (h : x.isPart = true) : (∀ xs, x ≠ .t xs) ∧ x ≠ .un := by
  cases x <;> simp_all [SV.isPart]

theorem buildS_ok {I : Nat → Prop} {w : World} (places : List (Nat × Nat)) : ∀ (l : List (Nat × SV T)) (z segs : List (Seg T)), Seg.validL I w z → (∀ p ∈ l, p.2.valid I w) → buildS places l z = some segs →
    Instr.fill (places[·]?) (Seg.cellsL z).toArray (l.map fun p => (p.1, p.2.toV)) = some (Seg.cellsL segs).toArray ∧ Seg.validL I w segs := by
  intro l z segs hz hl h
  have key : ∀ (l : List (Nat × SV T)) (z : List (Seg T)), buildS places l z = some segs → (∀ p ∈ l, (∀ xs, p.2 ≠ .t xs) ∧ p.2 ≠ .un ∧ places[p.1]? = some ((places[p.1]?.getD (0, 0)).1, (places[p.1]?.getD (0, 0)).2) ∧ segsLen p.2.segs = (places[p.1]?.getD (0, 0)).2) ∧
      (l.foldlM (fun z p => putS z (places[p.1]?.getD (0, 0)).1 (places[p.1]?.getD (0, 0)).2 p.2.segs) z) = some segs := by
    intro l
    induction l with
    | nil => intro z h; simp only [buildS] at h; exact ⟨by simp, by simpa using h⟩
    | cons p r ih =>
      intro z h
      obtain ⟨i, x⟩ := p
      simp only [buildS] at h
      split at h
      · rename_i off n hp
        split at h
        · rename_i hc
          split at h
          · rename_i z' hput
            obtain ⟨h1, h2⟩ := ih z' h
            refine ⟨fun p hp' => ?_, ?_⟩
            · rcases List.mem_cons.1 hp' with rfl | hp'
              · have := isPart_ok hc.2
                exact ⟨this.1, this.2, by simp [hp], by simp [hp, hc.1]⟩
              · exact h1 p hp'
            · simp only [List.foldlM_cons, hp, Option.getD_some, hput]
              exact h2
          · cases h
        · cases h
      · cases h
  obtain ⟨h1, h2⟩ := key l z h
  exact fill_ok (places[·]?) l z segs (fun i => (places[i]?.getD (0, 0)).2) (fun i => (places[i]?.getD (0, 0)).1) hz (fun p hp => ⟨hl p hp, h1 p hp⟩) h2

theorem buildA_ok {I : Nat → Prop} {w : World} (n : Nat) : ∀ (l : List (Nat × SV T)) (z segs : List (Seg T)), Seg.validL I w z → (∀ p ∈ l, p.2.valid I w) → buildA n l z = some segs →
    Instr.fill (fun i => some (i * n, n)) (Seg.cellsL z).toArray (l.map fun p => (p.1, p.2.toV)) = some (Seg.cellsL segs).toArray ∧ Seg.validL I w segs := by
  intro l z segs hz hl h
  have key : ∀ (l : List (Nat × SV T)) (z : List (Seg T)), buildA n l z = some segs → (∀ p ∈ l, (∀ xs, p.2 ≠ .t xs) ∧ p.2 ≠ .un ∧ (some (p.1 * n, n) : Option (Nat × Nat)) = some (p.1 * n, n) ∧ segsLen p.2.segs = n) ∧
      (l.foldlM (fun z p => putS z (p.1 * n) n p.2.segs) z) = some segs := by
    intro l
    induction l with
    | nil => intro z h; simp only [buildA] at h; exact ⟨by simp, by simpa using h⟩
    | cons p r ih =>
      intro z h
      obtain ⟨i, x⟩ := p
      simp only [buildA] at h
      split at h
      · rename_i hc
        split at h
        · rename_i z' hput
          obtain ⟨h1, h2⟩ := ih z' h
          refine ⟨fun p hp' => ?_, ?_⟩
          · rcases List.mem_cons.1 hp' with rfl | hp'
            · have := isPart_ok hc.2
              exact ⟨this.1, this.2, rfl, hc.1⟩
            · exact h1 p hp'
          · simp only [List.foldlM_cons, hput]
            exact h2
        · cases h
      · cases h
  obtain ⟨h1, h2⟩ := key l z h
  exact fill_ok _ l z segs (fun _ => n) (fun i => i * n) hz (fun p hp => ⟨hl p hp, h1 p hp⟩) h2

theorem evP_ok {S : St T} {a : Act} {I : Nat → Prop} {w : World} (hS : FrOK S a I w) : ∀ (ps : List (Nat × Operand)) (l : List (Nat × SV T)), evP S ps = some l →
    (ps.map fun p => (p.1, a.eval p.2)) = (l.map fun p => (p.1, p.2.toV)) ∧ ∀ p ∈ l, p.2.valid I w
  | [], l, h => by simp only [evP, Option.some.injEq] at h; subst h; exact ⟨rfl, by simp⟩
  | (i, x) :: r, l, h => by
    simp only [evP] at h
    split at h
    · rename_i y l' hy hl
      simp only [Option.some.injEq] at h; subst h
      obtain ⟨h1, h2⟩ := ev_ok hS hy
      obtain ⟨h3, h4⟩ := evP_ok hS r l' hl
      refine ⟨by simp [h1, h3], ?_⟩
      intro p hp
      rcases List.mem_cons.1 hp with rfl | hp
      · exact h2
      · exact h4 p hp
    · cases h

theorem assertV_ok {C : Ctx T} {t xt asserted : TypeId} {x inner : SV T} {ok : Bool} {c : SV T → VCT} {I : Nat → Prop} {w : World} (hx : x.toV = .iface t inner.toV) (hv : x.valid I w) (hi : inner.valid I w)
    (h : (assertV C t x inner asserted ok c).den) : ∃ y, (c y).den ∧ y.valid I w ∧ (Instr.typeAssert x.toV xt asserted ok).run C.P w = .ok y.toV w := by
  unfold assertV at h
  have key : ∀ (b : Bool), assertsB C.P t asserted = some b → (b = true → ∀ (v : Value) ok, (Instr.typeAssert (.iface t v) xt asserted ok).run C.P w = .ok (if ok then .tuple #[if isIfaceT C.P asserted then .iface t v else v, .bool true] else if isIfaceT C.P asserted then .iface t v else v) w) ∧
      (b = false → ∀ (v z : Value), (C.P.info? asserted).bind (·.zero) = some z → (Instr.typeAssert (.iface t v) xt asserted true).run C.P w = .ok (.tuple #[z, .bool false]) w) := by
    intro b hb
    unfold assertsB at hb
    split at hb
    · rename_i vs hvs
      have hrun := prun_run _ _ w hvs
      have hzero : ∀ z, (C.P.info? asserted).bind (·.zero) = some z → (zeroValue asserted).run C.P w = .ok z w := by
        intro z hz
        cases hi : C.P.info? asserted with
        | none => rw [hi] at hz; cases hz
        | some i => rw [hi] at hz; simp only [Option.bind_some] at hz; simp [zeroValue, typeInfo, hi, hz]
      unfold Instr.typeAssert at hrun ⊢
      cases hd : C.P.underlying asserted with
      | none => simp [underlying, hd] at hrun
      | some d =>
        simp only [Sem.run_bind, run_underlying hd, Result.andThen_ok] at hrun ⊢
        cases d with
        | interface want =>
          have hif : isIfaceT C.P asserted = true := by unfold isIfaceT; rw [hd]
          simp only [hif, if_true]
          cases hti : C.P.info? t with
          | none => simp [typeInfo, hti] at hrun
          | some i =>
            simp only [typeInfo, Sem.run_bind, run_program, Result.andThen_ok, hti, Sem.run_pure] at hrun ⊢
            cases hm : Instr.missingMethod want i.methods with
            | none =>
              simp only [hm, Sem.run_pure, if_true, Result.ok.injEq, Value.tuple.injEq, and_true] at hrun
              subst hrun
              have : b = true := by simpa using hb.symm
              subst this
              refine ⟨fun _ v ok => ?_, (fun h => by cases h)⟩
              cases ok <;> rfl
            | some m =>
              simp only [hm, if_true] at hrun ⊢
              have hb' : b = false := by
                cases hz : (zeroValue asserted).run C.P w with
                | ok z w' =>
                  simp only [Sem.run_bind, hz, Result.andThen_ok, Sem.run_pure, Result.ok.injEq, Value.tuple.injEq] at hrun
                  rw [← hrun.1] at hb
                  simpa using hb.symm
                | halt => simp [hz] at hrun
              subst hb'
              refine ⟨(fun h => by cases h), fun _ v z hz => ?_⟩
              simp only [Sem.run_bind, hzero z hz, Result.andThen_ok, Sem.run_pure]
        | _ =>
          have hif : isIfaceT C.P asserted = false := by unfold isIfaceT; rw [hd]
          simp only [hif, Bool.false_eq_true, if_false] at hrun ⊢
          by_cases ht : t = asserted
          · simp only [if_pos ht, Sem.run_pure, if_true, Result.ok.injEq, Value.tuple.injEq, and_true] at hrun
            subst hrun
            have : b = true := by simpa using hb.symm
            subst this
            refine ⟨fun _ v ok => ?_, (fun h => by cases h)⟩
            simp only [if_pos ht]
            cases ok <;> rfl
          · simp only [if_neg ht, if_true] at hrun ⊢
            have hb' : b = false := by
              cases hz : (zeroValue asserted).run C.P w with
              | ok z w' =>
                simp only [Sem.run_bind, hz, Result.andThen_ok, Sem.run_pure, Result.ok.injEq, Value.tuple.injEq] at hrun
                rw [← hrun.1] at hb
                simpa using hb.symm
              | halt => simp [hz] at hrun
            subst hb'
            refine ⟨(fun h => by cases h), fun _ v z hz => ?_⟩
            simp only [Sem.run_bind, hzero z hz, Result.andThen_ok, Sem.run_pure]
    · cases hb
  rw [hx]
  split at h
  · rename_i hb
    refine ⟨_, h, ?_, ?_⟩
    · cases ok
      · simp only [Bool.false_eq_true, if_false]; split <;> assumption
      · simp only [if_true]; exact ⟨by split <;> assumption, rfl, trivial⟩
    · rw [(key true hb).1 rfl]
      cases ok
      · simp only [Bool.false_eq_true, if_false]; split <;> simp [hx]
      · simp only [if_true, SV.toV, SV.toVL]; split <;> simp [hx]
  · rename_i hb
    split at h
    · rename_i hok
      split at h
      · rename_i z hz
        split at h
        · rename_i h1
          refine ⟨_, h, ⟨h1, rfl, trivial⟩, ?_⟩
          rw [hok, (key false hb).2 rfl _ z hz]; rfl
        · exact h.elim
      · exact h.elim
    · exact h.elim
  · exact h.elim

theorem builtin_exec (ρ : Operand → Value) (o : Oper) (b : Builtin) (args : Array Operand) (ts : Array TypeId) (ho : o.op = .call { callee := .builtin b, args := args, argTypes := ts }) (P : Program) (w : World) :
    (execOp ρ o).run P w = (builtin b ts o.type (args.map fun | .const _ => true | _ => false) (args.map ρ)).run P w := by
  unfold execOp
  simp only [ho, resolve, invoke]
  rfl

theorem len_ok {C : Ctx T} {o : Oper} {S : St T} {c : SV T → VCT} {a : Act} {w : World} {args : Array Operand} {ts : Array TypeId} (hS : FrOK S a (Owns S.H) w) (ho : o.op = .call { callee := .builtin .len, args := args, argTypes := ts })
    (h : (stx C o S c).den) : Gives C o S a w c := by
  unfold stx at h
  rw [ho] at h
  simp only at h
  split at h
  · rename_i x t hx ht
    have hargs : args = #[x] := by apply Array.ext'; simpa using hx
    have hts : ts = #[t] := by apply Array.ext'; simpa using ht
    subst hargs hts
    split at h
    · rename_i e y hd hy
      obtain ⟨h1, h2⟩ := ev_ok hS hy
      split at h
      · rename_i n hn
        refine ⟨_, h, rfl, ?_⟩
        rw [builtin_exec _ _ _ _ _ ho]
        have hlen : ∃ A cap, y.toV = .slice A n cap := by
          unfold lenSV at hn
          split at hn
          all_goals first | (cases hn; done) | skip
          all_goals (simp only [Option.some.injEq] at hn; subst hn)
          · exact ⟨_, _, rfl⟩
          · obtain ⟨A, cap, rfl⟩ := h2; exact ⟨_, _, rfl⟩
          · obtain ⟨A, m, cap, rfl⟩ := h2; exact ⟨_, _, rfl⟩
          · obtain ⟨A, cap, rfl, _⟩ := h2; exact ⟨_, _, rfl⟩
          · exact ⟨_, _, rfl⟩
        obtain ⟨A, cap, hv⟩ := hlen
        simp [builtin, Builtin.len_, h1, hv, run_underlying hd, SV.toV, goInt]
      · exact h.elim
    · rename_i n e hd
      refine ⟨_, h, rfl, ?_⟩
      rw [builtin_exec _ _ _ _ _ ho]
      simp [builtin, Builtin.len_, run_underlying hd, SV.toV, goInt]
    · rename_i e hd
      split at h
      · rename_i n e' hd'
        refine ⟨_, h, rfl, ?_⟩
        rw [builtin_exec _ _ _ _ _ ho]
        simp [builtin, Builtin.len_, run_underlying hd, run_underlying hd', SV.toV, goInt]
      · exact h.elim
    · exact generic_ok hS (by rw [ho]; intro cs b h; cases h) h
  · exact h.elim
end Go.Vg
