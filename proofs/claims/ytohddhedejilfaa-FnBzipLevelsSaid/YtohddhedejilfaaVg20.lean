/-
  What a function gives back: rows that are frozen; memory that is swept.
-/
import Derived.Test.YtohddhedejilfaaVg19
set_option linter.unusedVariables false
namespace Go.Vg
variable {T : Tys}

mutual
/-- Rows of one's own that are given back become rows that are read alone. -/
def frz : SV T → List (Ent T) → (SV T → List (Ent T) → VCT) → VCT
  | .o h e x n, H, k => match H.getD h .X with
    | .O x' e' l => .fact (x = x' ∧ n = l.length) (k (.ro e' x l) (H.set h .X))
    | _ => .ff "freeze: no row of its own"
  | .t xs, H, k => frzL xs H fun ys H => k (.t ys) H
  | x, H, k => k x H
def frzL : List (SV T) → List (Ent T) → (List (SV T) → List (Ent T) → VCT) → VCT
  | [], H, k => k [] H
  | x :: r, H, k => frz x H fun y H => frzL r H fun ys H => k (y :: ys) H
end
def sweep (n0 : Nat) (K : SV T → List (Ent T) → VCT) (r : SV T) (H : List (Ent T)) : VCT :=
  if n0 ≤ H.length then
    let idx := reach H 500 (r.refs ++ (H.take n0).flatMap Ent.refs) (List.range n0)
    K (r.ren (posOf idx)) (idx.map fun h => (H.getD h .X).ren (posOf idx))
  else .ff "sweep"
def outK (fz : Bool) (n0 : Nat) (K : SV T → List (Ent T) → VCT) (r : SV T) (H : List (Ent T)) : VCT :=
  if fz then frz r H (sweep n0 K) else sweep n0 K r H

theorem drop_hok {C : Ctx T} {H : List (Ent T)} {w : World} (hH : HOK C H w) {H' : List (Ent T)} (hg : ∀ (i : Nat) (e : Ent T), H'[i]? = some e → e = .X ∨ H[i]? = some e) : HOK C H' w ∧ Stp (Owns H) (Owns H') w w := by
  have sub : ∀ k, Owns H' k → Owns H k := by
    rintro k ⟨i, e, hi, he⟩
    rcases hg i e hi with rfl | h
    · exact he.elim
    · exact ⟨i, e, h, he⟩
  have s : Stp (Owns H) (Owns H') w w := ⟨rfl, rfl, rfl, Nat.le_refl _, fun _ _ _ => rfl, fun k hk => .inl (sub k hk)⟩
  refine ⟨⟨fun i e hi => ?_, fun i j e e' k hi hj he he' => ?_, fun k hk => hH.lt k (sub k hk), fun g v hg => ?_⟩, s⟩
  · rcases hg i e hi with rfl | h
    · trivial
    · exact Ent.ok_step s e (hH.ents i e h) (fun _ _ => rfl)
  · rcases hg i e hi with rfl | h
    · exact he.elim
    · rcases hg j e' hj with rfl | h'
      · exact he'.elim
      · exact hH.apart i j e e' k h h' he he'
  · obtain ⟨h1, h2, h3, h4⟩ := hH.glob g v hg
    exact ⟨h1, h2, fun h => h3 (sub g h), h4⟩

theorem set_X {H : List (Ent T)} {h : Nat} : ∀ (i : Nat) (e : Ent T), (H.set h .X)[i]? = some e → e = .X ∨ H[i]? = some e := by
  intro i e hi
  rw [List.getElem?_set] at hi
  split at hi
  · split at hi
    · exact .inl (Option.some.inj hi).symm
    · cases hi
  · exact .inr hi

abbrev Frz (C : Ctx T) (H : List (Ent T)) (w : World) (r : SV T) (k : SV T → List (Ent T) → VCT) : Prop :=
  ∃ r' H', r'.toV = r.toV ∧ (k r' H').den ∧ HOK C H' w ∧ r'.valid (Owns H') w ∧ Stp (Owns H) (Owns H') w w

theorem frz_one {C : Ctx T} {w : World} {x : SV T} {H : List (Ent T)} {k : SV T → List (Ent T) → VCT} (h : (k x H).den) (hH : HOK C H w) (hx : x.valid (Owns H) w) : Frz C H w x k := ⟨x, H, rfl, h, hH, hx, Stp.refl _ _⟩
mutual
theorem frz_ok {C : Ctx T} {w : World} : ∀ (x : SV T) (H : List (Ent T)) (k : SV T → List (Ent T) → VCT), (frz x H k).den → HOK C H w → x.valid (Owns H) w → Frz C H w x k
  | .o h e x n, H, k, hk, hH, hx => by
    unfold frz at hk
    split at hk
    · rename_i x' e' l he
      obtain ⟨⟨rfl, rfl⟩, hk⟩ := hk
      have hent : (H.getD h .X).ok (Owns H) w := ent_ok (S := { fr := Fr.nil, H := H }) hH h
      rw [he] at hent
      have hn := ent_get (S := { fr := Fr.nil, H := H }) (h := h) he (by intro h; cases h)
      obtain ⟨g1, g2⟩ := drop_hok hH (set_X (H := H) (h := h))
      refine ⟨.ro e' x l, H.set h .X, rfl, hk, g1, ?_, g2⟩
      rcases hent.2 with ⟨hv0, hl⟩ | ⟨g, cap, cur, hv0, _, _, hnc, hm, _⟩
      · exact ⟨none, 0, by rw [hv0, hl], by omega, by decide, fun h0 => by omega⟩
      · refine ⟨_, cap, hv0, hnc, hm, fun h0 => ?_⟩
        obtain ⟨g', cap', hv', _, _, hc⟩ := own_cells hent h0
        rw [hv0] at hv'
        cases hv'
        refine ⟨_, rfl, ?_, hH.lt g ⟨h, _, hn, by rw [hv0]; rfl⟩, hc⟩
        rintro ⟨i, e1, hi, he1⟩
        rw [List.getElem?_set] at hi
        split at hi
        · split at hi
          · rw [← Option.some.inj hi] at he1; exact he1.elim
          · cases hi
        · rename_i hne
          exact hne (hH.apart h i _ _ g hn hi (by rw [hv0]; rfl) he1)
    · exact hk.elim
  | .t xs, H, k, hk, hH, hx => by
    obtain ⟨ys, H', h1, h2, h3, h4, h5⟩ := frzL_ok xs H _ hk hH hx
    exact ⟨.t ys, H', by simp only [SV.toV, h1], h2, h3, h4, h5⟩
  | .un, H, k, hk, hH, hx | .v _, H, k, hk, hH, hx | .p _ _ _, H, k, hk, hH, hx | .s _ _ _ _ _ _ _, H, k, hk, hH, hx | .ov _ _ _ _ _, H, k, hk, hH, hx | .q _ _ _ _ _, H, k, hk, hH, hx
  | .ro _ _ _, H, k, hk, hH, hx | .rq _ _ _ _ _, H, k, hk, hH, hx | .i _ _, H, k, hk, hH, hx | .a _, H, k, hk, hH, hx | .f _ _ _, H, k, hk, hH, hx => frz_one hk hH hx
theorem frzL_ok {C : Ctx T} {w : World} : ∀ (xs : List (SV T)) (H : List (Ent T)) (k : List (SV T) → List (Ent T) → VCT), (frzL xs H k).den → HOK C H w → SV.validL (Owns H) w xs →
    ∃ ys H', SV.toVL ys = SV.toVL xs ∧ (k ys H').den ∧ HOK C H' w ∧ SV.validL (Owns H') w ys ∧ Stp (Owns H) (Owns H') w w
  | [], H, k, hk, hH, hx => ⟨[], H, rfl, hk, hH, trivial, Stp.refl _ _⟩
  | x :: r, H, k, hk, hH, hx => by
    obtain ⟨y, H1, h1, h2, h3, h4, h5⟩ := frz_ok x H _ hk hH hx.1
    obtain ⟨ys, H2, g1, g2, g3, g4, g5⟩ := frzL_ok r H1 _ h2 h3 (SV.validL_step h5 r hx.2)
    exact ⟨y :: ys, H2, by simp only [SV.toVL, h1, g1], g2, g3, ⟨SV.valid_step g5 y h4, g4⟩, h5.trans g5⟩
end

theorem sweep_ok {C : Ctx T} {w : World} {n0 : Nat} {K : SV T → List (Ent T) → VCT} {r : SV T} {H : List (Ent T)} (h : (sweep n0 K r H).den) (hH : HOK C H w) (hr : r.valid (Owns H) w) : Frz C H w r K := by
  unfold sweep at h
  split at h
  · rename_i hle
    obtain ⟨hn, hlt⟩ := reach_ok H 500 (r.refs ++ (H.take n0).flatMap Ent.refs) (List.range n0) List.nodup_range (fun h hh => by simp at hh; omega)
    simp only at h
    generalize reach H 500 (r.refs ++ (H.take n0).flatMap Ent.refs) (List.range n0) = idx at *
    have get : ∀ (i : Nat) (e : Ent T), (idx.map fun h => (H.getD h .X).ren (posOf idx))[i]? = some e → ∃ g : Nat, idx[i]? = some g ∧ g < H.length ∧ e = (H.getD g .X).ren (posOf idx) := by
      intro i e hi
      rw [List.getElem?_map, Option.map_eq_some_iff] at hi
      obtain ⟨g, hg, rfl⟩ := hi
      exact ⟨g, hg, hlt g (List.mem_of_getElem? hg), rfl⟩
    have sub : ∀ k, Owns (idx.map fun h => (H.getD h .X).ren (posOf idx)) k → Owns H k := by
      rintro k ⟨i, e, hi, he⟩
      obtain ⟨g, _, hg, rfl⟩ := get i e hi
      exact owns_getD ((Ent.ren_has _ _ _).1 he)
    have s : Stp (Owns H) (Owns (idx.map fun h => (H.getD h .X).ren (posOf idx))) w w := ⟨rfl, rfl, rfl, Nat.le_refl _, fun _ _ _ => rfl, fun k hk => .inl (sub k hk)⟩
    refine ⟨_, _, SV.ren_toV _ _, h, ⟨fun i e hi => ?_, fun i j e e' k hi hj he he' => ?_, fun k hk => hH.lt k (sub k hk), fun g v hg => ?_⟩, SV.ren_valid _ _ _ _ (SV.valid_step s r hr), s⟩
    · obtain ⟨g, _, hg, rfl⟩ := get i e hi
      exact Ent.ren_ok _ _ (Ent.ok_step s _ (hH.ents g _ (getD_ent H g hg)) (fun _ _ => rfl))
    · obtain ⟨g, h1, hg, rfl⟩ := get i e hi
      obtain ⟨g', h1', hg', rfl⟩ := get j e' hj
      have := hH.apart g g' _ _ k (getD_ent H g hg) (getD_ent H g' hg') ((Ent.ren_has _ _ _).1 he) ((Ent.ren_has _ _ _).1 he')
      subst this
      exact nodup_get hn h1 h1'
    · obtain ⟨h1, h2, h3, h4⟩ := hH.glob g v hg
      exact ⟨h1, h2, fun h => h3 (sub g h), h4⟩
  · exact h.elim

theorem outK_ok {C : Ctx T} {w : World} {fz : Bool} {n0 : Nat} {K : SV T → List (Ent T) → VCT} {r : SV T} {H : List (Ent T)} (h : (outK fz n0 K r H).den) (hH : HOK C H w) (hr : r.valid (Owns H) w) : Frz C H w r K := by
  unfold outK at h
  split at h
  · obtain ⟨r1, H1, h1, h2, h3, h4, h5⟩ := frz_ok r H _ h hH hr
    obtain ⟨r2, H2, g1, g2, g3, g4, g5⟩ := sweep_ok h2 h3 h4
    exact ⟨r2, H2, g1.trans h1, g2, g3, g4, h5.trans g5⟩
  · exact sweep_ok h hH hr

/-- ████ A CONTRACT FROM A FUNCTION's TEXT. ████ -/
theorem spec_of {C : Ctx T} (hz : ZOK C) {sp : Nat → Option (PT T)} (hsp : ∀ f pt, sp f = some pt → SpecOK C f pt) (hm : C.P.follows .mixedOrders = true) (ann : Ann T) {f : Nat} {fn : Func} (hf : C.P.funcs[f]? = some fn)
    (hname : (fn.name == "runtime.NumGoroutine") = false) (hb : fn.body.isSome = true) (hlx : lexF fn = true) (fz : Bool) {pt : PT T} (h : ∀ args H K Kp, (pt args H K Kp).den → Met (fnx C sp ann fn args H (outK fz H.length K) Kp)) : SpecOK C f pt := by
  obtain ⟨c, hc⟩ := Option.isSome_iff_exists.mp hb
  refine ⟨fun args w => MuLone.run_callFunc_enter hf hname hc args w, fun args H K Kp w hp hI => ?_⟩
  refine (fnx_ok hz hsp hm hf hlx (h args H K Kp hp).den hI).mono ?_
  rintro e w' (⟨r, H', rfl, hk, hH', hr, hst⟩ | ⟨r, H', rfl, hk, hH', hr, hst⟩)
  · obtain ⟨r2, H2, g1, g2, g3, g4, g5⟩ := outK_ok hk hH' hr
    exact .inl ⟨r2, H2, by rw [g1], g2, g3, g4, hst.trans g5⟩
  · exact .inr ⟨r, H', rfl, hk, hH', hr, hst⟩
end Go.Vg
