/-
  The generator's soundness, part 3: the operations that leave memory alone.
-/
import Derived.Test.YtohddhedejilfaaVg5
set_option linter.unusedVariables false
namespace Go.Vg
variable {T : Tys}

/-- An operation gives a value and leaves the world as it is. -/
def Gives (C : Ctx T) (o : Oper) (S : St T) (a : Act) (w : World) (c : SV T → VCT) : Prop :=
  ∃ y, (c y).den ∧ y.valid (Owns S.H) w ∧ (execOp a.eval o).run C.P w = .ok (.value y.toV) w

theorem plain_ev {S : St T} {a : Act} {I : Nat → Prop} {w : World} (h : FrOK S a I w) {xs : List Operand} (hp : S.plain xs = true) : ∀ x ∈ xs, a.eval x = S.evV x := by
  intro x hx
  simp only [St.plain, List.all_eq_true] at hp
  have := hp x hx
  unfold isV at this
  unfold St.evV
  split at this
  · rename_i y hy
    exact (ev_ok h hy).1
  · cases this

theorem generic_ok {C : Ctx T} {o : Oper} {S : St T} {c : SV T → VCT} {a : Act} {w : World} (hS : FrOK S a (Owns S.H) w) (hsel : ∀ cs b, o.op ≠ .select cs b)
    (h : (generic C o S c).den) : Gives C o S a w c := by
  unfold generic at h
  split at h
  · rename_i hp
    split at h
    · rename_i y hy
      split at h
      · rename_i hv
        refine ⟨.v y, h, hv, ?_⟩
        rw [execOp_congr o hsel (ρ' := S.evV) (fun x hx => plain_ev hS hp x (by simpa using hx))]
        exact prun_run _ _ w hy
      · exact h.elim
    · exact h.elim
  · exact h.elim

theorem arith_ok {k : IntKind} {n : Int} {c : SV T → VCT} {I : Nat → Prop} {w : World} (h : (arith k n c).den) : ∃ y, (c y).den ∧ y.valid I w ∧ y.toV = .int k (k.wrap n) := by
  unfold arith at h
  split at h
  · obtain ⟨⟨h1, h2⟩, h⟩ := h
    refine ⟨_, h, rfl, ?_⟩
    simp only [SV.toV, IntKind.wrap]
    congr 1
    simp only [IntKind.bits, IntKind.signed, Bool.true_and]
    split
    · rename_i h3; simp at h3; omega
    · rename_i h3; simp at h3; omega
  · exact ⟨_, h, rfl, rfl⟩

theorem binInt_ok {C : Ctx T} {op : BinOp} {xt : TypeId} {k : IntKind} {p q : Int} {c : SV T → VCT} {I : Nat → Prop} {w : World} (hs : op ≠ .shl ∧ op ≠ .shr) (h : (binInt op k p q c).den) :
    ∃ y, (c y).den ∧ y.valid I w ∧ (binOp op xt (.int k p) (.int k q)).run C.P w = .ok y.toV w := by
  cases op with
  | add => obtain ⟨y, h1, h2, h3⟩ := arith_ok (I := I) (w := w) h; exact ⟨y, h1, h2, by rw [h3]; simp [binOp, Op.intArith]⟩
  | sub => obtain ⟨y, h1, h2, h3⟩ := arith_ok (I := I) (w := w) h; exact ⟨y, h1, h2, by rw [h3]; simp [binOp, Op.intArith]⟩
  | mul => obtain ⟨y, h1, h2, h3⟩ := arith_ok (I := I) (w := w) h; exact ⟨y, h1, h2, by rw [h3]; simp [binOp, Op.intArith]⟩
  | quo => obtain ⟨h0, h⟩ := h; exact ⟨_, h, rfl, by simp [binOp, Op.intDiv, h0, SV.toV]⟩
  | rem => obtain ⟨h0, h⟩ := h; exact ⟨_, h, rfl, by simp [binOp, Op.intDiv, h0, SV.toV]⟩
  | and => exact ⟨_, h, rfl, by simp [binOp, Op.intBits, SV.toV, bitI]⟩
  | or => exact ⟨_, h, rfl, by simp [binOp, Op.intBits, SV.toV, bitI]⟩
  | xor => exact ⟨_, h, rfl, by simp [binOp, Op.intBits, SV.toV, bitI]⟩
  | andNot => exact ⟨_, h, rfl, by simp [binOp, Op.intBits, SV.toV, bitI]⟩
  | eql => exact ⟨_, h, rfl, by simp [binOp, Op.intCmp, SV.toV]⟩
  | neq => exact ⟨_, h, rfl, by simp [binOp, Op.intCmp, SV.toV]⟩
  | lss => exact ⟨_, h, rfl, by simp [binOp, Op.intCmp, SV.toV]⟩
  | leq => exact ⟨_, h, rfl, by simp [binOp, Op.intCmp, SV.toV]⟩
  | gtr => exact ⟨_, h, rfl, by simp [binOp, Op.intCmp, SV.toV]⟩
  | geq => exact ⟨_, h, rfl, by simp [binOp, Op.intCmp, SV.toV]⟩
  | shl => exact absurd rfl hs.1
  | shr => exact absurd rfl hs.2

theorem eqGuard_plain {P : Program} {w : World} (op : BinOp) (t : TypeId) (x y : Operand) {u v : Value} (h : u = .nilIface → v = .nilIface → False) (h2 : ∀ cs ds, u = .agg cs → v = .agg ds → False) :
    (eqGuard op t x y u v).run P w = .ok () w := by
  have key : ∀ (A : Sem Unit) (B : Array Value → Array Value → Sem Unit), (match u, v with
      | .nilIface, .nilIface => A
      | .agg c, .agg d => B c d
      | _, _ => pure ()) = pure () := by
    intro A B
    cases u <;> cases v <;> first | rfl | exact (h rfl rfl).elim | exact (h2 _ _ rfl rfl).elim
  unfold eqGuard
  cases op <;> first | rfl | exact (congrArg (fun s : Sem Unit => s.run P w) (key _ (fun _ _ => _))).trans rfl

theorem equalIn_nil {P : Program} {t : TypeId} {u v : SV T} (h : nilFits P t u v = true) (w : World) (d : Nat) : (Op.equalIn (d + 1) t u.toV v.toV).run P w = .ok false w := by
  unfold nilFits at h
  split at h
  all_goals first | (cases h; done) | skip
  all_goals
    split at h
    · rename_i hd
      simp only [Op.equalIn, Sem.run_bind, run_underlying hd, Result.andThen_ok, SV.toV]
      rfl
    · cases h

theorem nilFits_ok {C : Ctx T} {t : TypeId} {u v : SV T} (h : nilFits C.P t u v = true) (w : World) (x y : Operand) (op : BinOp) :
    (eqGuard op t x y u.toV v.toV).run C.P w = .ok () w ∧
      (binOp .eql t u.toV v.toV).run C.P w = .ok (.bool false) w ∧ (binOp .neq t u.toV v.toV).run C.P w = .ok (.bool true) w := by
  have he : (Op.equal t u.toV v.toV).run C.P w = .ok false w := equalIn_nil h w 9999
  unfold nilFits at h
  split at h
  all_goals first | (cases h; done) | skip
  all_goals
    refine ⟨eqGuard_plain _ _ _ _ (fun h1 h2 => ?_) (fun _ _ h1 h2 => ?_), ?_, ?_⟩
    · first | (simp [SV.toV] at h1; done) | (simp [SV.toV] at h2; done)
    · first | (simp [SV.toV] at h1; done) | (simp [SV.toV] at h2; done)
    · simp only [SV.toV] at he ⊢
      simp only [binOp, Sem.run_bind, he, Result.andThen_ok, Sem.run_pure]
    · simp only [SV.toV] at he ⊢
      simp only [binOp, Sem.run_bind, he, Result.andThen_ok, Sem.run_pure]; rfl

theorem evL_ok {S : St T} {a : Act} {I : Nat → Prop} {w : World} (hS : FrOK S a I w) : ∀ (xs : List Operand) (ys : List (SV T)), evL S xs = some ys → xs.map a.eval = SV.toVL ys ∧ SV.validL I w ys
  | [], ys, h => by simp only [evL, Option.some.injEq] at h; subst h; exact ⟨rfl, trivial⟩
  | x :: r, ys, h => by
    simp only [evL] at h
    split at h
    · rename_i y l hy hl
      simp only [Option.some.injEq] at h; subst h
      obtain ⟨h1, h2⟩ := ev_ok hS hy
      obtain ⟨h3, h4⟩ := evL_ok hS r l hl
      exact ⟨by simp [SV.toVL, h1, h3], h2, h4⟩
    · cases h

theorem field_run {P : Program} {t i : Nat} {f : Field} (h : fieldT P t i = some f) : ∃ fs, P.underlying t = some (.struct fs) ∧ fs[i]? = some f := by
  unfold fieldT at h
  split at h
  · rename_i fs hd; exact ⟨fs, hd, h⟩
  · cases h

theorem fieldPlace_ok {P : Program} {w : World} {f : Field} {n : Nat} (hn : sizeT P f.type = some n) (h0 : n ≠ 0) (a : Addr) : (fieldPlace a f).run P w = .ok (a.add f.offset) w := by
  unfold fieldPlace
  simp only [Sem.run_bind, sizeT_run hn, Result.andThen_ok, if_neg h0]; rfl

theorem fieldAt_ok {P : Program} {w : World} {t i : Nat} {f : Field} {n : Nat} (h : fieldT P t i = some f) (hn : sizeT P f.type = some n) (h0 : n ≠ 0) (a : Addr) :
    (Instr.fieldAt t (.pointer (some a)) i).run P w = .ok (.pointer (some (a.add f.offset))) w := by
  obtain ⟨fs, hd, hf⟩ := field_run h
  unfold Instr.fieldAt
  simp only [Sem.run_bind, run_underlying hd, Result.andThen_ok, hf, Instr.sureAddr]
  simp only [Sem.run_pure, Result.andThen_ok, fieldPlace_ok hn h0]

theorem off_add (b : Nat) (o : Off) (k : Nat) : (⟨b, o.val, none⟩ : Addr).add k = ⟨b, (o.add k).val, none⟩ := by
  rw [add_block]
  cases o <;> simp [Off.val, Off.add, Nat.add_assoc]

theorem fieldS_ok {P : Program} {I : Nat → Prop} {w : World} {t i : Nat} {f : Field} {segs : List (Seg T)} {y : SV T} (h : fieldT P t i = some f) (hv : Seg.validL I w segs) (hy : readS P f.type segs f.offset = some y) :
    (Instr.field t (.agg (Seg.cellsL segs).toArray) i).run P w = .ok y.toV w ∧ y.valid I w := by
  obtain ⟨fs, hd, hf⟩ := field_run h
  unfold Instr.field
  simp only [Sem.run_bind, run_underlying hd, Result.andThen_ok, hf, asAgg, Sem.run_pure, part]
  unfold readS at hy
  split at hy
  · rename_i n ha hn
    simp only [Option.map_eq_some_iff] at hy
    obtain ⟨m, hm, rfl⟩ := hy
    obtain ⟨p, q, rfl, hp, hmn⟩ := subS_ok _ _ _ _ hm
    rw [validL_append, validL_append] at hv
    have h1 := cellsL_length p hv.1.1
    have h2 := cellsL_length m hv.1.2
    simp only [isAggT_run ha, Result.andThen_ok, if_true, Sem.run_bind, sizeT_run hn, Sem.run_pure]
    refine ⟨?_, hv.1.2⟩
    simp only [SV.toV, cellsL_append]
    congr 2
    apply Array.ext'
    simp only [Array.toList_extract, List.extract_eq_take_drop, Nat.add_sub_cancel_left]
    rw [List.append_assoc, List.drop_append_of_le_length (by omega), ← hp, ← h1, List.drop_length, List.nil_append, List.take_append_of_le_length (by omega), ← hmn, ← h2, List.take_length]
  · rename_i ha
    obtain ⟨h1, h2, _⟩ := findC_ok _ _ _ hv hy
    simp only [isAggT_run ha, Result.andThen_ok]
    simp [h1, h2]
  · cases hy
end Go.Vg
