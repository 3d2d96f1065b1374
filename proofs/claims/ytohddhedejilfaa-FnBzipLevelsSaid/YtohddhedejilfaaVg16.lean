/-
  The generator's soundness, part 13: claims that are met; code.
-/
import Derived.Test.YtohddhedejilfaaVg15
import Derived.ScopeJumps
import Derived.Deep.LoopGhost
set_option linter.unusedVariables false
namespace Go.Vg
variable {T : Tys}

/-! ### Matching -/
mutual
theorem mSV_ok : ∀ (x y : SV T) (k : VCT), (mSV x y k).den → k.den ∧ x.toV = y.toV ∧ ∀ (I : Nat → Prop) (w : World), x.valid I w → y.valid I w
  | .un, y, k, h => by
    cases y <;> first | exact ⟨h, rfl, fun _ _ h => h⟩ | exact h.elim
  | .v x, y, k, h => by
    cases y with
    | v y =>
      unfold mSV at h
      split at h
      · split at h
        · rename_i hi
          subst hi
          obtain ⟨rfl, h⟩ := h
          exact ⟨h, rfl, fun _ _ h => h⟩
        · exact h.elim
      · obtain ⟨rfl, h⟩ := h
        exact ⟨h, rfl, fun _ _ h => h⟩
      · obtain ⟨rfl, h⟩ := h
        exact ⟨h, rfl, fun _ _ h => h⟩
    | _ => exact h.elim
  | .p a b o, y, k, h => by
    cases y with
    | p a' b' o' =>
      unfold mSV at h
      split at h
      · obtain ⟨⟨rfl, rfl⟩, h⟩ := h
        exact ⟨h, rfl, fun _ _ _ => trivial⟩
      · exact h.elim
    | _ => exact h.elim
  | .s a b e base lo len cap, y, k, h => by
    cases y with
    | s a' b' e' base' lo' len' cap' =>
      unfold mSV at h
      split at h
      · rename_i he
        obtain ⟨rfl, rfl⟩ := he
        obtain ⟨⟨rfl, rfl, rfl, rfl, rfl⟩, h⟩ := h
        exact ⟨h, rfl, fun _ _ _ => trivial⟩
      · exact h.elim
    | _ => exact h.elim
  | .o a e x n, y, k, h => by
    cases y with
    | o a' e' x' n' =>
      unfold mSV at h
      split at h
      · rename_i he
        obtain ⟨rfl, rfl⟩ := he
        obtain ⟨⟨rfl, rfl⟩, h⟩ := h
        exact ⟨h, rfl, fun _ _ h => h⟩
      · exact h.elim
    | _ => exact h.elim
  | .ov _ _ _ _ _, y, k, h => by cases y <;> exact h.elim
  | .q _ _ _ _ _, y, k, h => by cases y <;> exact h.elim
  | .rq _ _ _ _ _, y, k, h => by cases y <;> exact h.elim
  | .ro e x l, y, k, h => by
    cases y with
    | ro e' x' l' =>
      unfold mSV at h
      split at h
      · rename_i he
        subst he
        obtain ⟨⟨rfl, rfl⟩, h⟩ := h
        exact ⟨h, rfl, fun _ _ h => h⟩
      · exact h.elim
    | _ => exact h.elim
  | .i t x, y, k, h => by
    cases y with
    | i t' y =>
      unfold mSV at h
      split at h
      · rename_i he
        subst he
        obtain ⟨h1, h2, h3⟩ := mSV_ok x y k h
        exact ⟨h1, by simp only [SV.toV, h2], h3⟩
      · exact h.elim
    | _ => exact h.elim
  | .a xs, y, k, h => by
    cases y with
    | a ys =>
      obtain ⟨h1, h2, h3⟩ := mSegs_ok xs ys k (by simpa only [mSV] using h)
      exact ⟨h1, by simp only [SV.toV, h2], h3⟩
    | _ => exact h.elim
  | .t xs, y, k, h => by
    cases y with
    | t ys =>
      obtain ⟨h1, h2, h3⟩ := mSVL_ok xs ys k (by simpa only [mSV] using h)
      exact ⟨h1, by simp only [SV.toV, h2], h3⟩
    | _ => exact h.elim
  | .f fn a b, y, k, h => by
    cases y with
    | f fn' a' b' =>
      unfold mSV at h
      split at h
      · rename_i he
        subst he
        obtain ⟨h1, h2, h3⟩ := mSVL_ok a a' _ h
        obtain ⟨h1, h4, h5⟩ := mSVL_ok b b' _ h1
        exact ⟨h1, by simp only [SV.toV, h2, h4], fun I w hv => ⟨h3 I w hv.1, h5 I w hv.2⟩⟩
      · exact h.elim
    | _ => exact h.elim
theorem mSVL_ok : ∀ (xs ys : List (SV T)) (k : VCT), (mSVL xs ys k).den → k.den ∧ SV.toVL xs = SV.toVL ys ∧ ∀ (I : Nat → Prop) (w : World), SV.validL I w xs → SV.validL I w ys
  | [], [], k, h => ⟨h, rfl, fun _ _ h => h⟩
  | [], _ :: _, k, h => h.elim
  | _ :: _, [], k, h => h.elim
  | x :: xs, y :: ys, k, h => by
    obtain ⟨h1, h2, h3⟩ := mSV_ok x y _ h
    obtain ⟨h1, h4, h5⟩ := mSVL_ok xs ys k h1
    exact ⟨h1, by simp only [SV.toVL, h2, h4], fun I w hv => ⟨h3 I w hv.1, h5 I w hv.2⟩⟩
theorem mSegs_ok : ∀ (xs ys : List (Seg T)) (k : VCT), (mSegs xs ys k).den → k.den ∧ Seg.cellsL xs = Seg.cellsL ys ∧ ∀ (I : Nat → Prop) (w : World), Seg.validL I w xs → Seg.validL I w ys
  | [], [], k, h => ⟨h, rfl, fun _ _ h => h⟩
  | [], .c _ :: _, k, h => h.elim
  | [], .r _ _ _ :: _, k, h => h.elim
  | .c _ :: _, [], k, h => h.elim
  | .r _ _ _ :: _, [], k, h => h.elim
  | .c _ :: _, .r _ _ _ :: _, k, h => h.elim
  | .r _ _ _ :: _, .c _ :: _, k, h => h.elim
  | .c x :: xs, .c y :: ys, k, h => by
    obtain ⟨h1, h2, h3⟩ := mSV_ok x y _ (by simpa only [mSegs] using h)
    obtain ⟨h1, h4, h5⟩ := mSegs_ok xs ys k h1
    exact ⟨h1, by simp only [Seg.cellsL, Seg.cells, h2, h4], fun I w hv => ⟨⟨h3 I w hv.1.1, h2 ▸ hv.1.2⟩, h5 I w hv.2⟩⟩
  | .r e n l :: xs, .r e' n' l' :: ys, k, h => by
    unfold mSegs at h
    split at h
    · rename_i he
      subst he
      obtain ⟨⟨rfl, rfl⟩, h⟩ := h
      obtain ⟨h1, h4, h5⟩ := mSegs_ok xs ys k h
      exact ⟨h1, by simp only [Seg.cellsL, Seg.cells, h4], fun I w hv => ⟨hv.1, h5 I w hv.2⟩⟩
    · exact h.elim
end

theorem mEnt_ok (x y : Ent T) (k : VCT) (h : (mEnt x y k).den) : k.den ∧ (∀ (I : Nat → Prop) (w : World), x.ok I w → y.ok I w) ∧ ∀ j, y.has j → x.has j := by
  cases y with
  | X => exact ⟨by cases x <;> exact h, fun _ _ _ => trivial, fun _ h => h.elim⟩
  | B b' t' ys =>
    cases x with
    | B b t xs =>
      have h1 : (if t = t' then VCT.fact (b = b') (mSegs xs ys k) else .ff "match: another type").den := h
      split at h1
      · rename_i ht
        subst ht
        obtain ⟨rfl, h1⟩ := h1
        obtain ⟨h1, h2, h3⟩ := mSegs_ok xs ys k h1
        exact ⟨h1, fun I w hx => ⟨h2 ▸ hx.1, h3 I w hx.2⟩, fun _ h => h⟩
      · exact h1.elim
    | _ => exact h.elim
  | O x' e' l' =>
    cases x with
    | O x e l =>
      have h1 : (if h : e' = e then VCT.fact (x = x' ∧ l = h ▸ l') k else .ff "match: another type").den := h
      split at h1
      · rename_i ht
        subst ht
        obtain ⟨⟨rfl, rfl⟩, h1⟩ := h1
        exact ⟨h1, fun _ _ h => h, fun _ h => h⟩
      · exact h1.elim
    | _ => exact h.elim
  | F m' =>
    cases x with
    | F m =>
      obtain ⟨rfl, h⟩ : (VCT.fact (m = m') k).den := h
      exact ⟨h, fun _ _ h => h, fun _ h => h⟩
    | _ => exact h.elim

theorem mH_ok : ∀ (xs ys : List (Ent T)) (k : VCT), (mH xs ys k).den → k.den ∧ ∀ (i : Nat) (y : Ent T), ys[i]? = some y → ∃ x, xs[i]? = some x ∧ (∀ (I : Nat → Prop) (w : World), x.ok I w → y.ok I w) ∧ ∀ j, y.has j → x.has j := by
  intro xs ys
  induction ys generalizing xs with
  | nil => intro k h; exact ⟨by cases xs <;> exact h, fun i y hy => by simp at hy⟩
  | cons y ys ih =>
    intro k h
    cases xs with
    | nil => exact h.elim
    | cons x xs =>
      obtain ⟨h1, h2, h3⟩ := mEnt_ok x y _ h
      obtain ⟨h1, h4⟩ := ih xs k h1
      refine ⟨h1, fun i z hz => ?_⟩
      cases i with
      | zero =>
        simp only [List.getElem?_cons_zero, Option.some.injEq] at hz; subst hz
        exact ⟨x, rfl, h2, h3⟩
      | succ i => exact h4 i z hz

theorem mH_hok {C : Ctx T} {xs ys : List (Ent T)} {k : VCT} {w : World} (h : (mH xs ys k).den) (hH : HOK C xs w) : k.den ∧ HOK C ys w ∧ Stp (Owns xs) (Owns ys) w w := by
  obtain ⟨h1, h2⟩ := mH_ok xs ys k h
  have hsub : ∀ j, Owns ys j → Owns xs j := by
    rintro j ⟨i, y, hi, hy⟩
    obtain ⟨x, hx, _, h3⟩ := h2 i y hi
    exact ⟨i, x, hx, h3 j hy⟩
  have s : Stp (Owns xs) (Owns ys) w w := ⟨rfl, rfl, rfl, Nat.le_refl _, fun _ _ _ => rfl, fun j hj => .inl (hsub j hj)⟩
  refine ⟨h1, ⟨fun i y hi => ?_, fun i j y y' k hi hj hy hy' => ?_, fun k hk => hH.lt k (hsub k hk), fun g v hg => ?_⟩, s⟩
  · obtain ⟨x, hx, h4, _⟩ := h2 i y hi
    exact Ent.ok_step s y (h4 _ _ (hH.ents i x hx)) (fun _ _ => rfl)
  · obtain ⟨x, hx, _, h3⟩ := h2 i y hi
    obtain ⟨x', hx', _, h3'⟩ := h2 j y' hj
    exact hH.apart i j x x' k hx hx' (h3 k hy) (h3' k hy')
  · obtain ⟨g1, g2, g3, g4⟩ := hH.glob g v hg
    exact ⟨g1, g2, fun h => g3 (hsub g h), g4⟩

theorem mFr_ok {S : St T} : ∀ (l : List (Nat × SV T)) (k : VCT), (mFr S l k).den → k.den ∧ ∀ d y, (d, y) ∈ l → ∃ x, S.get d = some x ∧ x.toV = y.toV ∧ ∀ (I : Nat → Prop) (w : World), x.valid I w → y.valid I w := by
  intro l
  induction l with
  | nil => intro k h; exact ⟨h, fun d y hy => by simp at hy⟩
  | cons p r ih =>
    obtain ⟨d, y⟩ := p
    intro k h
    unfold mFr at h
    split at h
    · rename_i x hx
      obtain ⟨h1, h2, h3⟩ := mSV_ok x y _ h
      obtain ⟨h1, h4⟩ := ih k h1
      refine ⟨h1, fun d' y' hy => ?_⟩
      simp only [List.mem_cons, Prod.mk.injEq] at hy
      rcases hy with ⟨rfl, rfl⟩ | hy
      · exact ⟨x, hx, h2, h3⟩
      · exact h4 d' y' hy
    · exact h.elim

theorem forgetAll_len : ∀ (ws : List Tmp) (l : Fr T), (forgetAll ws l).length = l.length
  | [], l => rfl
  | d :: r, l => by rw [forgetAll, forgetAll_len r]; rfl
theorem putFr_len : ∀ (m : List (Nat × SV T)) (l : Fr T), (putFr m l).length = l.length
  | [], l => rfl
  | (d, x) :: r, l => by rw [putFr, putFr_len r]; rfl
theorem forgetAll_get : ∀ (ws : List Tmp) (l : Fr T) (i : Nat) (x : SV T), (forgetAll ws l).get i = some x → i ∉ ws ∧ l.get i = some x
  | [], l, i, x, h => ⟨by simp, h⟩
  | d :: r, l, i, x, h => by
    obtain ⟨h1, h2⟩ := forgetAll_get r _ i x h
    rcases Fr.get_set h2 with ⟨_, h3, _⟩ | ⟨h3, h4⟩
    · cases h3
    · exact ⟨by simp only [List.mem_cons, not_or]; exact ⟨fun h => h3 h.symm, h1⟩, h4⟩
theorem putFr_get : ∀ (m : List (Nat × SV T)) (l : Fr T) (i : Nat) (x : SV T), (putFr m l).get i = some x → (i, x) ∈ m ∨ l.get i = some x
  | [], l, i, x, h => .inr h
  | (d, y) :: r, l, i, x, h => by
    rcases putFr_get r _ i x h with h1 | h1
    · exact .inl (by simp [h1])
    · rcases Fr.get_set h1 with ⟨rfl, h3, _⟩ | ⟨h3, h4⟩
      · cases h3; exact .inl (by simp)
      · exact .inr h4

/-- The claim is met: so the state is as the claim says. -/
theorem inv_lead {C : Ctx T} {I : Inv T} {ws : List Tmp} {S S' : St T} {x : I.X} {k : VCT} {a a' : Act} {w w' : World} (hS : FrOK S a (Owns S.H) w) (hl : Lead C ws S S' a a' w w') (h : (mSt I S' S x k).den) :
    k.den ∧ Lead C ws S (I.at ws S x) a a' w w' := by
  unfold mSt at h
  obtain ⟨h1, h2⟩ := mFr_ok _ _ h
  obtain ⟨h3, h4, h5⟩ := mH_hok h1 hl.H
  have hst : Stp (Owns S.H) (Owns (I.at ws S x).H) w w' := hl.stp.trans h5
  refine ⟨h3, ⟨⟨?_, fun i y hy => ?_⟩, h4, hst, hl.defers, hl.same, ?_⟩⟩
  · rw [hl.fr.size, hl.len]
    simp only [Inv.at, putFr_len, forgetAll_len]
  · rcases putFr_get _ _ i y hy with hm | hm
    · obtain ⟨z, hz, e1, e2⟩ := h2 i y hm
      obtain ⟨g1, g2⟩ := hl.fr.get i z hz
      exact ⟨e1 ▸ g1, SV.valid_step h5 y (e2 _ _ g2)⟩
    · obtain ⟨hi, hm⟩ := forgetAll_get _ _ i y hm
      obtain ⟨g1, g2⟩ := hS.get i y hm
      exact ⟨(hl.same i hi).trans g1, SV.valid_step hst y g2⟩
  · simp only [Inv.at, putFr_len, forgetAll_len]

/-! ### Ways out -/
def ExM (I : Nat → Prop) (w : World) : Ex T → Exit → Prop
  | .normal, e => e = .normal
  | .exit i, e => e = .exit i
  | .goto l, e => e = .goto l
  | .ret, e => e = .ret
  | .panic x, e => e = .panic [{ v := x.toV, recovered := false }] ∧ x.valid I w
def Post (C : Ctx T) (K : Ex T → St T → VCT) (ws : List Tmp) (S : St T) (a : Act) (w : World) : Exit → Act → World → Prop :=
  fun e a' w' => ∃ ex S', ExM (Owns S'.H) w' ex e ∧ (K ex S').den ∧ Lead C ws S S' a a' w w'

theorem Post.trans {C : Ctx T} {K : Ex T → St T → VCT} {ws ws' ws'' : List Tmp} {S S1 : St T} {a a1 a' : Act} {w w1 w' : World} {e : Exit} (hl : Lead C ws S S1 a a1 w w1) (h : Post C K ws' S1 a1 w1 e a' w') (hs : ∀ d ∈ ws ++ ws', d ∈ ws'') :
    Post C K ws'' S a w e a' w' := by
  obtain ⟨ex, S', h1, h2, h3⟩ := h
  exact ⟨ex, S', h1, h2, (hl.trans h3).mono hs⟩

theorem setB_frok {S : St T} {a : Act} {w : World} {c : Operand} {t : Bool} (hS : FrOK S a (Owns S.H) w) (h : S.ev c = some (.v (.bool t))) : FrOK (S.setB c t) a (Owns (S.setB c t).H) w ∧ (S.setB c t).H = S.H ∧ (S.setB c t).fr.length = S.fr.length := by
  cases c with
  | tmp d => exact ⟨frOK_bool hS h, rfl, set_len _ _ _⟩
  | _ => exact ⟨hS, rfl, rfl⟩

/-- A scope: a claim that bears a number, which every pass from the label lowers. -/
theorem wp_scope_ghost {P : Program} {a : Act} {w : World} {Q : Exit → Act → World → Prop} {c rest : Code} (l : Nat) (J : Nat → Act → World → Prop) (hf : findLabel c l = some rest)
    (first : c.wp P (Exit.jump l (fun a w => ∃ n, J n a w) Q) a w)
    (pass : ∀ n a w, J n a w → rest.wp P (Exit.jump l (fun a' w' => ∃ n', n' < n ∧ J n' a' w') Q) a w) : (Code.scope c).wp P Q a w := by
  refine wp_scope_jumps l (fun a w => ∃ n, J n a w) (fun a w => leastOf (fun n => J n a w)) hf first ?_
  intro a w hJ
  refine wp_mono (pass _ a w (leastOf_spec hJ).1) ?_
  intro e a' w' hq
  cases e with
  | goto l' =>
    obtain ⟨rfl, n', hlt, hJ'⟩ := hq
    exact ⟨rfl, ⟨n', hJ'⟩, Nat.lt_of_le_of_lt ((leastOf_spec ⟨n', hJ'⟩).2 n' hJ') hlt⟩
  | _ => exact hq

theorem written_label : ∀ (c : Code) (l : Nat) (rest : Code), findLabel c l = some rest → ∀ d ∈ written rest, d ∈ written c := by
  intro c
  induction c with
  | seq a b iha ihb =>
    intro l rest h d hd
    unfold findLabel at h
    split at h
    · rename_i r hr
      simp only [Option.some.injEq] at h; subst h
      simp only [written, List.mem_append] at hd ⊢
      exact hd.elim (fun h => .inl (iha l r hr d h)) .inr
    · simp only [written, List.mem_append]
      exact .inr (ihb l rest h d hd)
  | label l' =>
    intro l rest h d hd
    unfold findLabel at h
    split at h
    · simp only [Option.some.injEq] at h; subst h; simp [written] at hd
    · cases h
  | _ => intro l rest h; simp [findLabel] at h

theorem lexC_label : ∀ (c : Code) (l : Nat) (rest : Code), findLabel c l = some rest → lexC c = true → lexC rest = true := by
  intro c
  induction c with
  | seq a b iha ihb =>
    intro l rest h hc
    simp only [lexC, Bool.and_eq_true] at hc
    unfold findLabel at h
    split at h
    · rename_i r hr
      simp only [Option.some.injEq] at h; subst h
      simp only [lexC, Bool.and_eq_true]
      exact ⟨iha l r hr hc.1, hc.2⟩
    · exact ihb l rest h hc.2
  | label l' =>
    intro l rest h hc
    unfold findLabel at h
    split at h
    · simp only [Option.some.injEq] at h; subst h; rfl
    · cases h
  | _ => intro l rest h; simp [findLabel] at h

abbrev CodeOK (C : Ctx T) (G : Code → St T → (Ex T → St T → VCT) → VCT) (c : Code) : Prop :=
  lexC c = true → ∀ (S : St T) (K : Ex T → St T → VCT) (a : Act) (w : World), FrOK S a (Owns S.H) w → HOK C S.H w → (G c S K).den → c.wp C.P (Post C K (written c) S a w) a w

theorem codexB_ok {C : Ctx T} (hz : ZOK C) {sp : Nat → Option (PT T)} (hsp : ∀ f pt, sp f = some pt → SpecOK C f pt) (hm : C.P.follows .mixedOrders = true) {ann : Ann T} {rec : Code → St T → (Ex T → St T → VCT) → VCT} (hrec : ∀ c, CodeOK C rec c) :
    ∀ c : Code, CodeOK C (codexB C sp ann rec) c := by
  intro c
  induction c with
  | skip => intro _ S K a w hS hH h; exact wp_skip ⟨.normal, S, rfl, h, Lead.refl _ hS hH rfl rfl⟩
  | ret => intro _ S K a w hS hH h; exact wp_ret ⟨.ret, S, rfl, h, Lead.refl _ hS hH rfl rfl⟩
  | exit i => intro _ S K a w hS hH h; exact wp_exit ⟨.exit i, S, rfl, h, Lead.refl _ hS hH rfl rfl⟩
  | goto i => intro _ S K a w hS hH h; exact wp_goto ⟨.goto i, S, rfl, h, Lead.refl _ hS hH rfl rfl⟩
  | label i => intro _ S K a w hS hH h; exact wp_label ⟨.normal, S, rfl, h, Lead.refl _ hS hH rfl rfl⟩
  | region id ops draw =>
    intro hx S K a w hS hH h
    have := regx_ok (id := id) hz hsp hm (fun hd => by subst hd; simpa [lexC] using hx) hS hH h (Post C K (written (.region id ops draw)) S a w) (fun S' a' w' hk hl => ⟨.normal, S', rfl, hk, hl⟩) (fun x S' a' w' hk hx hl => ⟨.panic x, S', ⟨rfl, hx⟩, hk, hl⟩)
    simpa using this
  | seq c1 c2 ih1 ih2 =>
    intro hx S K a w hS hH h
    simp only [lexC, Bool.and_eq_true] at hx
    have ih1 := ih1 hx.1
    have ih2 := ih2 hx.2
    clear hx
    unfold codexB at h
    refine wp_seq ?_
    split at h
    · refine wp_mono (ih1 S _ a w hS hH h) ?_
      rintro e a1 w1 ⟨ex, S1, hx, hk, hl⟩
      cases ex with
      | normal =>
        cases hx
        refine wp_mono (ih2 S1 K a1 w1 hl.fr hl.H hk) ?_
        intro e2 a2 w2 hp
        exact Post.trans hl hp (by simp [written])
      | exit i => cases hx; exact ⟨.exit i, S1, rfl, hk, hl.mono (by simp [written]; exact fun _ h => .inl h)⟩
      | goto i => cases hx; exact ⟨.goto i, S1, rfl, hk, hl.mono (by simp [written]; exact fun _ h => .inl h)⟩
      | ret => cases hx; exact ⟨.ret, S1, rfl, hk, hl.mono (by simp [written]; exact fun _ h => .inl h)⟩
      | panic x => obtain ⟨rfl, hx⟩ := hx; exact ⟨.panic x, S1, ⟨rfl, hx⟩, hk, hl.mono (by simp [written]; exact fun _ h => .inl h)⟩
    · rename_i I _
      obtain ⟨h, hb⟩ := h
      refine wp_mono (ih1 S _ a w hS hH h) ?_
      rintro e a1 w1 ⟨ex, S1, hx, hk, hl⟩
      cases ex with
      | normal =>
        cases hx
        obtain ⟨x, hphi, hk⟩ := hk
        obtain ⟨_, hl'⟩ := inv_lead hS hl hk
        have hb1 := hb x hphi
        rw [forceSt_eq] at hb1
        refine wp_mono (ih2 _ K a1 w1 hl'.fr hl'.H hb1) ?_
        intro e2 a2 w2 hp
        exact Post.trans hl' hp (by simp [written])
      | exit i => cases hx; exact ⟨.exit i, S1, rfl, hk, hl.mono (by simp [written]; exact fun _ h => .inl h)⟩
      | goto i => cases hx; exact ⟨.goto i, S1, rfl, hk, hl.mono (by simp [written]; exact fun _ h => .inl h)⟩
      | ret => cases hx; exact ⟨.ret, S1, rfl, hk, hl.mono (by simp [written]; exact fun _ h => .inl h)⟩
      | panic x => obtain ⟨rfl, hx⟩ := hx; exact ⟨.panic x, S1, ⟨rfl, hx⟩, hk, hl.mono (by simp [written]; exact fun _ h => .inl h)⟩
  | cond c c1 c2 ih1 ih2 =>
    intro hx S K a w hS hH h
    simp only [lexC, Bool.and_eq_true] at hx
    have ih1 := ih1 hx.1
    have ih2 := ih2 hx.2
    clear hx
    unfold codexB at h
    split at h
    · rename_i t hc
      obtain ⟨g1, g2⟩ := br_split h
      have he := (ev_ok hS hc).1
      obtain ⟨s1, s2, s3⟩ := setB_frok hS hc
      cases t
      · refine wp_cond_false he (wp_mono (ih2 _ K a w s1 (by rw [s2]; exact hH) (g2 rfl)) ?_)
        intro e2 a2 w2 hp
        exact Post.trans (Lead.refl [] s1 hH s2 s3) hp (by simp [written]; exact fun _ h => .inr h)
      · refine wp_cond_true he (wp_mono (ih1 _ K a w s1 (by rw [s2]; exact hH) (g1 rfl)) ?_)
        intro e2 a2 w2 hp
        exact Post.trans (Lead.refl [] s1 hH s2 s3) hp (by simp [written]; exact fun _ h => .inl h)
    · exact h.elim
  | block id b ih =>
    intro hx S K a w hS hH h
    have ih := ih hx
    clear hx
    unfold codexB at h
    refine wp_block (wp_mono (ih S _ a w hS hH h) ?_)
    rintro e a1 w1 ⟨ex, S1, hx, hk, hl⟩
    cases ex with
    | normal => cases hx; exact ⟨.normal, S1, rfl, hk, hl⟩
    | exit i =>
      cases hx
      simp only [Exit.inBlock]
      simp only at hk
      split
      · rename_i hi
        rw [if_pos hi] at hk
        exact ⟨.normal, S1, rfl, hk, hl⟩
      · rename_i hi
        rw [if_neg hi] at hk
        exact ⟨.exit i, S1, rfl, hk, hl⟩
    | goto i => cases hx; exact ⟨.goto i, S1, rfl, hk, hl⟩
    | ret => cases hx; exact ⟨.ret, S1, rfl, hk, hl⟩
    | panic x => obtain ⟨rfl, hx⟩ := hx; exact ⟨.panic x, S1, ⟨rfl, hx⟩, hk, hl⟩
  | loop b ih =>
    intro hx S K a w hS hH h
    have ih := ih hx
    clear hx
    unfold codexB at h
    split at h
    · rename_i I _
      obtain ⟨x0, hphi, h⟩ := h
      obtain ⟨hall, hl0⟩ := inv_lead hS (Lead.refl (written b) hS hH rfl rfl) h
      refine wp_loop_ghost (fun n a' w' => ∃ x, I.mu x = n ∧ I.phi x ∧ Lead C (written b) S (I.at (written b) S x) a a' w w') (I.mu x0) ⟨x0, rfl, hphi, hl0⟩ ?_
      rintro n a1 w1 ⟨x, rfl, hphi, hl⟩
      have hb1 := hall x hphi
      rw [forceSt_eq] at hb1
      refine wp_mono (ih _ _ a1 w1 hl.fr hl.H hb1) ?_
      rintro e a2 w2 ⟨ex, S2, hx, hk, hl2⟩
      have hl3 : Lead C (written b) S S2 a a2 w w2 := (hl.trans hl2).mono (by simp)
      cases ex with
      | normal =>
        cases hx
        obtain ⟨x', ⟨hphi', hlt⟩, hk⟩ := hk
        exact ⟨_, hlt, x', rfl, hphi', (inv_lead hS hl3 hk).2⟩
      | exit i => cases hx; exact ⟨.exit i, S2, rfl, hk, hl3⟩
      | goto i => cases hx; exact ⟨.goto i, S2, rfl, hk, hl3⟩
      | ret => cases hx; exact ⟨.ret, S2, rfl, hk, hl3⟩
      | panic x => obtain ⟨rfl, hx⟩ := hx; exact ⟨.panic x, S2, ⟨rfl, hx⟩, hk, hl3⟩
    · exact h.elim
  | scope b ih =>
    intro hlx S K a w hS hH h
    have ih := ih hlx
    unfold codexB at h
    split at h
    · refine wp_scope_straight (wp_mono (ih S _ a w hS hH h) ?_)
      rintro e a1 w1 ⟨ex, S1, hx, hk, hl⟩
      cases ex with
      | normal => cases hx; exact ⟨.normal, S1, rfl, hk, hl⟩
      | exit i => cases hx; exact ⟨.exit i, S1, rfl, hk, hl⟩
      | goto i => exact hk.elim
      | ret => cases hx; exact ⟨.ret, S1, rfl, hk, hl⟩
      | panic x => obtain ⟨rfl, hx⟩ := hx; exact ⟨.panic x, S1, ⟨rfl, hx⟩, hk, hl⟩
    · rename_i I _
      split at h
      · rename_i rest hr
        obtain ⟨h, hall⟩ := h
        refine wp_scope_ghost 0 (fun n a' w' => ∃ x, I.mu x = n ∧ I.phi x ∧ Lead C (written b) S (I.at (written b) S x) a a' w w') hr ?_ ?_
        · refine wp_mono (ih S _ a w hS hH h) ?_
          rintro e a1 w1 ⟨ex, S1, hx, hk, hl⟩
          cases ex with
          | normal => cases hx; exact ⟨.normal, S1, rfl, hk, hl⟩
          | exit i => cases hx; exact ⟨.exit i, S1, rfl, hk, hl⟩
          | goto i =>
            cases hx
            simp only at hk
            split at hk
            · rename_i hi
              subst hi
              obtain ⟨x, hphi, hk⟩ := hk
              exact ⟨rfl, _, x, rfl, hphi, (inv_lead hS hl hk).2⟩
            · exact hk.elim
          | ret => cases hx; exact ⟨.ret, S1, rfl, hk, hl⟩
          | panic x => obtain ⟨rfl, hx⟩ := hx; exact ⟨.panic x, S1, ⟨rfl, hx⟩, hk, hl⟩
        · rintro n a1 w1 ⟨x, rfl, hphi, hl⟩
          have hb1 := hall x hphi
          rw [forceSt_eq] at hb1
          refine wp_mono (hrec rest (lexC_label b 0 rest hr hlx) _ _ a1 w1 hl.fr hl.H hb1) ?_
          rintro e a2 w2 ⟨ex, S2, hx, hk, hl2⟩
          have hl3 : Lead C (written b) S S2 a a2 w w2 := (hl.trans hl2).mono (by simp only [List.mem_append]; exact fun d hd => hd.elim id (written_label b 0 rest hr d))
          cases ex with
          | normal => cases hx; exact ⟨.normal, S2, rfl, hk, hl3⟩
          | exit i => cases hx; exact ⟨.exit i, S2, rfl, hk, hl3⟩
          | goto i =>
            cases hx
            simp only at hk
            split at hk
            · rename_i hi
              subst hi
              obtain ⟨x', ⟨hphi', hlt⟩, hk⟩ := hk
              exact ⟨rfl, _, hlt, x', rfl, hphi', (inv_lead hS hl3 hk).2⟩
            · exact hk.elim
          | ret => cases hx; exact ⟨.ret, S2, rfl, hk, hl3⟩
          | panic x => obtain ⟨rfl, hx⟩ := hx; exact ⟨.panic x, S2, ⟨rfl, hx⟩, hk, hl3⟩
      · exact h.elim
  | _ => intro _ S K a w hS hH h; exact h.elim

theorem codexD_ok {C : Ctx T} (hz : ZOK C) {sp : Nat → Option (PT T)} (hsp : ∀ f pt, sp f = some pt → SpecOK C f pt) (hm : C.P.follows .mixedOrders = true) {ann : Ann T} : ∀ (d : Nat) (c : Code), CodeOK C (codexD C sp ann d) c
  | 0 => codexB_ok hz hsp hm (fun _ _ _ _ _ _ _ _ h => h.elim)
  | d + 1 => codexB_ok hz hsp hm (codexD_ok hz hsp hm d)
theorem codex_ok {C : Ctx T} (hz : ZOK C) {sp : Nat → Option (PT T)} (hsp : ∀ f pt, sp f = some pt → SpecOK C f pt) (hm : C.P.follows .mixedOrders = true) {ann : Ann T} (c : Code) : CodeOK C (codex C sp ann) c :=
  codexD_ok hz hsp hm 2 c
end Go.Vg
