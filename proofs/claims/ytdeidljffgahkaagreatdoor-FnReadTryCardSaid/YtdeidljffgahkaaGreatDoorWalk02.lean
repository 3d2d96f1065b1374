/-
  The frame rule is sound.
-/
import Derived.Test.YtdeidljffgahkaaGreatDoorWalk01
import Derived.Below
import Derived.Defers
import Derived.Recover
import Derived.Test.YtdeidljffgahkaaGreatDoorProg
set_option linter.unusedVariables false
namespace Go.Vg
variable {T : Tys}

theorem has_lt {H : List (Ent T)} {h k : Nat} (hh : (H.getD h .X).has k) : h < H.length := by
  rcases Nat.lt_or_ge h H.length with h0 | h0
  · exact h0
  · rw [List.getD_eq_getElem?_getD, List.getElem?_eq_none h0] at hh; exact hh.elim

theorem getD_of {H : List (Ent T)} {h : Nat} {e : Ent T} (hh : H[h]? = some e) : H.getD h .X = e := by
  rw [List.getD_eq_getElem?_getD, hh]; rfl

open Classical in
noncomputable def rest (H : List (Ent T)) (idx hs : List Nat) (w : World) : Nat → Option Obj :=
  fun k => if Owns H k ∧ (∀ h ∈ idx, ¬ (H.getD h .X).has k) ∧ ∀ h ∈ hs, ¬ (H.getD h .X).has k then w.heap[k]? else none
def locH (H : List (Ent T)) (idx : List Nat) (m : Nat → Option Obj) : List (Ent T) := .F m :: idx.map fun h => (H.getD h .X).ren (into idx)

theorem rest_of {H : List (Ent T)} {idx hs : List Nat} {w : World} {k : Nat} (h : rest H idx hs w k ≠ none) : (Owns H k ∧ (∀ h ∈ idx, ¬ (H.getD h .X).has k) ∧ ∀ h ∈ hs, ¬ (H.getD h .X).has k) ∧ rest H idx hs w k = w.heap[k]? := by
  unfold rest at h ⊢
  split at h
  · rename_i h0; exact ⟨h0, by rw [if_pos h0]⟩
  · exact (h rfl).elim

theorem locH_get {H : List (Ent T)} {idx : List Nat} {m : Nat → Option Obj} {i : Nat} {e : Ent T} (h : (locH H idx m)[i]? = some e) : (i = 0 ∧ e = .F m) ∨ ∃ j g, i = j + 1 ∧ idx[j]? = some g ∧ e = (H.getD g .X).ren (into idx) := by
  cases i with
  | zero => simp only [locH, List.getElem?_cons_zero, Option.some.injEq] at h; exact .inl ⟨rfl, h.symm⟩
  | succ j =>
    simp only [locH, List.getElem?_cons_succ, List.getElem?_map, Option.map_eq_some_iff] at h
    obtain ⟨g, hg, rfl⟩ := h
    exact .inr ⟨j, g, rfl, hg, rfl⟩
theorem locH_owns {H : List (Ent T)} {idx : List Nat} {m : Nat → Option Obj} {k : Nat} (h : Owns (locH H idx m) k) : m k ≠ none ∨ ∃ g ∈ idx, (H.getD g .X).has k := by
  obtain ⟨i, e, hi, he⟩ := h
  rcases locH_get hi with ⟨_, rfl⟩ | ⟨j, g, _, hg, rfl⟩
  · exact .inl he
  · exact .inr ⟨g, List.mem_of_getElem? hg, (Ent.ren_has _ _ _).1 he⟩
theorem owns_getD {H : List (Ent T)} {g k : Nat} (h : (H.getD g .X).has k) : Owns H k := ⟨g, _, getD_ent H g (has_lt h), h⟩

theorem nodup_get {l : List Nat} (hn : l.Nodup) {i j g : Nat} (hi : l[i]? = some g) (hj : l[j]? = some g) : i = j := by
  have h1 : i < l.length := by
    rcases Nat.lt_or_ge i l.length with h0 | h0
    · exact h0
    · rw [List.getElem?_eq_none h0] at hi; cases hi
  exact (List.getElem?_inj h1 hn).1 (hi.trans hj.symm)

section
variable {C : Ctx T} {H : List (Ent T)} {w : World} (hH : HOK C H w) {idx hs : List Nat} (hn : idx.Nodup) (hlt : ∀ h ∈ idx, h < H.length) (hd : ∀ h ∈ hs, h ∉ idx)
include hH hn hlt hd

omit hn hlt in
theorem loc_owns {k : Nat} (h : Owns (locH H idx (rest H idx hs w)) k) : Owns H k ∧ ∀ h ∈ hs, ¬ (H.getD h .X).has k := by
  rcases locH_owns h with h | ⟨g, hg, h⟩
  · exact ⟨(rest_of h).1.1, (rest_of h).1.2.2⟩
  · refine ⟨owns_getD h, fun x hx hk => hd x hx ?_⟩
    rw [hH.apart x g _ _ k (getD_ent H x (has_lt hk)) (getD_ent H g (has_lt h)) hk h]
    exact hg

theorem loc_hok : HOK C (locH H idx (rest H idx hs w)) w := by
  have s : Stp (Owns H) (Owns (locH H idx (rest H idx hs w))) w w := ⟨rfl, rfl, rfl, Nat.le_refl _, fun _ _ _ => rfl, fun k hk => .inl (loc_owns hH hd hk).1⟩
  refine ⟨fun i e hi => ?_, fun i j e e' k hi hj he he' => ?_, fun k hk => hH.lt k (loc_owns hH hd hk).1, fun g v hg => ?_⟩
  · rcases locH_get hi with ⟨_, rfl⟩ | ⟨j, g, _, hg, rfl⟩
    · exact fun k hk => (rest_of hk).2.symm
    · exact Ent.ren_ok _ _ (Ent.ok_step s _ (hH.ents g _ (getD_ent H g (hlt g (List.mem_of_getElem? hg)))) (fun _ _ => rfl))
  · rcases locH_get hi with ⟨rfl, rfl⟩ | ⟨i', g, rfl, hg, rfl⟩ <;> rcases locH_get hj with ⟨rfl, rfl⟩ | ⟨j', g', rfl, hg', rfl⟩
    · rfl
    · exact ((rest_of he).1.2.1 g' (List.mem_of_getElem? hg') ((Ent.ren_has _ _ _).1 he')).elim
    · exact ((rest_of he').1.2.1 g (List.mem_of_getElem? hg) ((Ent.ren_has _ _ _).1 he)).elim
    · have h1 := (Ent.ren_has _ _ _).1 he
      have h2 := (Ent.ren_has _ _ _).1 he'
      have := hH.apart g g' _ _ k (getD_ent H g (has_lt h1)) (getD_ent H g' (has_lt h2)) h1 h2
      subst this
      rw [nodup_get hn hg hg']
  · obtain ⟨h1, h2, h3, h4⟩ := hH.glob g v hg
    exact ⟨h1, h2, fun h => h3 (loc_owns hH hd h).1, h4⟩

theorem loc_out {es : List (Ent T)} {w' : World} {r : SV T} (hH' : HOK C (.F (rest H idx hs w) :: es) w') (hr : r.valid (Owns (.F (rest H idx hs w) :: es)) w') (s : Stp (Owns (locH H idx (rest H idx hs w))) (Owns (.F (rest H idx hs w) :: es)) w w')
    (hro : hs = [] ∨ (r.noRo = true ∧ ∀ (i : Nat) (e : Ent T), es[i]? = some e → e.noRo = true ∨ ∃ (g : Nat) (rel : Rel T), e = .R rel ∧ H[g]? = some e)) : HOK C (merge H idx es) w' ∧ (r.ren (back idx H.length)).valid (Owns (merge H idx es)) w' ∧ Stp (Owns H) (Owns (merge H idx es)) w w' := by
  have outside : ∀ (g : Nat) (e : Ent T) (k : Nat), g ∉ idx → H[g]? = some e → e.has k → ∀ h ∈ idx, ¬ (H.getD h .X).has k := by
    intro g e k hg he hk h hh hk'
    have := hH.apart g h e _ k he (getD_ent H h (has_lt hk')) hk hk'
    subst this
    exact hg hh
  have ownsM : ∀ k, Owns (merge H idx es) k → (∃ g e, g ∉ idx ∧ H[g]? = some e ∧ e.has k) ∨ Owns (.F (rest H idx hs w) :: es) k := by
    rintro k ⟨g, e, he, hk⟩
    rcases merge_get H idx es hn hlt g e he with ⟨h1, h2⟩ | rfl | ⟨i, e0, h1, rfl, _⟩
    · exact .inl ⟨g, e, h1, h2, hk⟩
    · exact hk.elim
    · exact .inr ⟨i + 1, e0, h1, (Ent.ren_has _ _ _).1 hk⟩
  have st : Stp (Owns H) (Owns (merge H idx es)) w w' := by
    refine ⟨s.os, s.tape, s.output, s.size, fun k hk ho => s.block k hk (fun h => ho (loc_owns hH hd h).1), fun k hk => ?_⟩
    rcases ownsM k hk with ⟨g, e, _, he, hk⟩ | hk
    · exact .inl ⟨g, e, he, hk⟩
    · exact (s.own k hk).imp (fun h => (loc_owns hH hd h).1) id
  have kept : ∀ (g : Nat) (e : Ent T) (k : Nat), g ∉ idx → H[g]? = some e → e.has k → w'.heap[k]? = w.heap[k]? := by
    intro g e k hg he hk
    by_cases ho : Owns (locH H idx (rest H idx hs w)) k
    · rcases locH_owns ho with h | ⟨x, hx, h⟩
      · have h1 := hH'.ents 0 _ rfl k h
        rw [h1, (rest_of h).2]
      · exact (outside g e k hg he hk x hx h).elim
    · exact s.block k (hH.lt k ⟨g, e, he, hk⟩) ho
  have sub : hs = [] → ∀ k, Owns (merge H idx es) k → Owns (.F (rest H idx hs w) :: es) k := by
    rintro rfl k hk
    rcases ownsM k hk with ⟨g, e, hg, he, hk⟩ | hk
    · refine ⟨0, _, rfl, ?_⟩
      have hlt := hH.lt k ⟨g, e, he, hk⟩
      show rest H idx [] w k ≠ none
      unfold rest
      rw [if_pos ⟨⟨g, e, he, hk⟩, outside g e k hg he hk, by simp⟩, Array.getElem?_eq_getElem hlt]
      simp
    · exact hk
  have stp' : hs = [] → Stp (Owns (.F (rest H idx hs w) :: es)) (Owns (merge H idx es)) w' w' := fun h => ⟨rfl, rfl, rfl, Nat.le_refl _, fun _ _ _ => rfl, fun k hk => .inl (sub h k hk)⟩
  have okE : ∀ (i : Nat) (e0 : Ent T), es[i]? = some e0 → e0.ok (Owns (merge H idx es)) w' := by
    intro i e0 hi
    have h1 := hH'.ents (i + 1) e0 hi
    rcases hro with h | h
    · exact Ent.ok_step (stp' h) e0 h1 (fun _ _ => rfl)
    · rcases h.2 i e0 hi with h2 | ⟨g, rel, rfl, h2⟩
      · exact Ent.noRo_ok e0 h2 h1
      · exact Ent.ok_step st _ (hH.ents g _ h2) (fun k hk => hk.elim)
  refine ⟨⟨fun g e he => ?_, fun g g' e e' k he he' hk hk' => ?_, fun k hk => ?_, fun g v hg => ?_⟩, ?_, st⟩
  · rcases merge_get H idx es hn hlt g e he with ⟨h1, h2⟩ | rfl | ⟨i, e0, h1, rfl, _⟩
    · exact Ent.ok_step st e (hH.ents g e h2) (fun k hk => kept g e k h1 h2 hk)
    · trivial
    · exact Ent.ren_ok _ _ (okE i e0 h1)
  · have cross : ∀ (g i : Nat) (e e0 : Ent T), g ∉ idx → H[g]? = some e → e.has k → es[i]? = some e0 → e0.has k → False := by
      intro g i e e0 hg he hk hi hk0
      have hlt := hH.lt k ⟨g, e, he, hk⟩
      rcases s.own k ⟨i + 1, e0, hi, hk0⟩ with h | h
      · rcases locH_owns h with h | ⟨x, hx, h⟩
        · have := hH'.apart 0 (i + 1) _ _ k rfl hi h hk0
          omega
        · exact outside g e k hg he hk x hx h
      · omega
    rcases merge_get H idx es hn hlt g e he with ⟨h1, h2⟩ | rfl | ⟨i, e0, h1, rfl, hi⟩
    · rcases merge_get H idx es hn hlt g' e' he' with ⟨h1', h2'⟩ | rfl | ⟨j, e1, h1', rfl, hj⟩
      · exact hH.apart g g' e e' k h2 h2' hk hk'
      · exact hk'.elim
      · exact (cross g j e e1 h1 h2 hk h1' ((Ent.ren_has _ _ _).1 hk')).elim
    · exact hk.elim
    · rcases merge_get H idx es hn hlt g' e' he' with ⟨h1', h2'⟩ | rfl | ⟨j, e1, h1', rfl, hj⟩
      · exact (cross g' i e' e0 h1' h2' hk' h1 ((Ent.ren_has _ _ _).1 hk)).elim
      · exact hk'.elim
      · have := hH'.apart (i + 1) (j + 1) e0 e1 k h1 h1' ((Ent.ren_has _ _ _).1 hk) ((Ent.ren_has _ _ _).1 hk')
        have hij : i = j := by omega
        subst hij
        rcases hi with ⟨ha, hb⟩ | ⟨ha, hb⟩ <;> rcases hj with ⟨hc, hd⟩ | ⟨hc, hd⟩
        · rw [hb] at hd; exact Option.some.inj hd
        · omega
        · omega
        · omega
  · rcases ownsM k hk with ⟨g, e, _, he, hk⟩ | hk
    · exact Nat.lt_of_lt_of_le (hH.lt k ⟨g, e, he, hk⟩) s.size
    · exact hH'.lt k hk
  · obtain ⟨h1, h2, h3, h4⟩ := hH'.glob g v hg
    refine ⟨h1, h2, fun h => ?_, h4⟩
    rcases ownsM g h with ⟨x, e, _, he, hk⟩ | hk
    · exact (hH.glob g v hg).2.2.1 ⟨x, e, he, hk⟩
    · exact h3 hk
  · refine SV.ren_valid _ _ _ _ ?_
    rcases hro with h | h
    · exact SV.valid_step (stp' h) r hr
    · exact SV.noRo_valid r h.1 hr
end

theorem updR_const {rel : Rel T} : ∀ (es : List (Ent T)), noRoB es = true → ∀ (i : Nat) (e : Ent T), (updR (fun _ => rel) es)[i]? = some e → e.noRo = true ∨ e = .R rel
  | [], _, i, e, h => by simp [updR] at h
  | .R _ :: r, hn, 0, e, h => by simp only [updR, List.getElem?_cons_zero, Option.some.injEq] at h; exact .inr h.symm
  | .R _ :: r, hn, i + 1, e, h => by
    simp only [updR, List.getElem?_cons_succ] at h
    exact .inl (List.all_eq_true.1 hn e (List.mem_of_getElem? h))
  | .B b t xs :: r, hn, i, e, h => by
    simp only [noRoB, Bool.and_eq_true] at hn
    cases i with
    | zero => simp only [updR, List.getElem?_cons_zero, Option.some.injEq] at h; subst h; exact .inl hn.1
    | succ i => simp only [updR, List.getElem?_cons_succ] at h; exact updR_const r hn.2 i e h
  | .O x t l :: r, hn, i, e, h => by
    simp only [noRoB, Bool.and_eq_true] at hn
    cases i with
    | zero => simp only [updR, List.getElem?_cons_zero, Option.some.injEq] at h; subst h; exact .inl hn.1
    | succ i => simp only [updR, List.getElem?_cons_succ] at h; exact updR_const r hn.2 i e h
  | .F m :: r, hn, i, e, h => by
    simp only [noRoB, Bool.and_eq_true] at hn
    cases i with
    | zero => simp only [updR, List.getElem?_cons_zero, Option.some.injEq] at h; subst h; exact .inl hn.1
    | succ i => simp only [updR, List.getElem?_cons_succ] at h; exact updR_const r hn.2 i e h
  | .X :: r, hn, i, e, h => by
    simp only [noRoB, Bool.and_eq_true] at hn
    cases i with
    | zero => simp only [updR, List.getElem?_cons_zero, Option.some.injEq] at h; subst h; exact .inl hn.1
    | succ i => simp only [updR, List.getElem?_cons_succ] at h; exact updR_const r hn.2 i e h

/-- A call's way back. -/
theorem locOut_ok {C : Ctx T} {H : List (Ent T)} {w w' : World} {idx hs : List Nat} {K : SV T → List (Ent T) → VCT} {r : SV T} {Hl : List (Ent T)} (hH : HOK C H w) (hn : idx.Nodup) (hlt : ∀ h ∈ idx, h < H.length) (hd : ∀ h ∈ hs, h ∉ idx)
    (h : (locOut H idx hs (rest H idx hs w) K r Hl).den) (hH' : HOK C Hl w') (hr : r.valid (Owns Hl) w') (s : Stp (Owns (locH H idx (rest H idx hs w))) (Owns Hl) w w') :
    ∃ H', (K (r.ren (back idx H.length)) H').den ∧ HOK C H' w' ∧ (r.ren (back idx H.length)).valid (Owns H') w' ∧ Stp (Owns H) (Owns H') w w' := by
  unfold locOut at h
  split at h
  · rename_i m' es
    obtain ⟨rfl, h⟩ := h
    split at h
    · rename_i hc
      obtain ⟨g1, g2, g3⟩ := loc_out hH hn hlt hd hH' hr s (.inl (by simpa using hc))
      exact ⟨_, h, g1, g2, g3⟩
    · split at h
      · rename_i rel hrel
        split at h
        · rename_i hc
          rw [Bool.and_eq_true] at hc
          obtain ⟨g, hg⟩ := relOf_ok H rel hrel
          have hR : (Ent.R rel).ok (Owns (locH H idx (rest H idx hs w))) w := by
            intro e x l hx
            exact roOK_step (hH.ents g _ hg e x l hx) (fun k hk => (loc_owns hH hd hk).1)
          have hR' : (Ent.R rel).ok (Owns (.F (rest H idx hs w) :: es)) w' := fun e x l hx => (hR e x l hx).step s
          have e1 : updR (fun _ => rel) (.F (rest H idx hs w) :: es) = .F (rest H idx hs w) :: updR (fun _ => rel) es := rfl
          have hH2 := updR_hok (f := fun _ => rel) hH' (fun _ _ => hR')
          have hO : Owns (updR (fun _ => rel) (.F (rest H idx hs w) :: es)) = Owns (.F (rest H idx hs w) :: es) := updR_owns
          rw [e1] at hH2 hO
          obtain ⟨g1, g2, g3⟩ := loc_out hH hn hlt hd hH2 (by rw [hO]; exact hr) (by rw [hO]; exact s) (.inr ⟨hc.1, fun i e hi => by
            rcases updR_const es hc.2 i e hi with h1 | h1
            · exact .inl h1
            · exact .inr ⟨g, rel, h1, by rw [h1]; exact hg⟩⟩)
          exact ⟨_, h, g1, g2, g3⟩
        · exact h.elim
      · split at h
        · rename_i hc
          rw [Bool.and_eq_true] at hc
          obtain ⟨g1, g2, g3⟩ := loc_out hH hn hlt hd hH' hr s (.inr ⟨hc.1, fun i e hi => .inl (List.all_eq_true.1 hc.2 e (List.mem_of_getElem? hi))⟩)
          exact ⟨_, h, g1, g2, g3⟩
        · exact h.elim
  · exact h.elim

/-- ████ THE FRAME RULE. ████ -/
theorem loc_ok {C : Ctx T} {f : Nat} {pt : PT T} (hs : SpecOK C f pt) (bor : List (Option TypeId)) : SpecOK C f (loc bor pt) := by
  refine ⟨hs.enters, fun args H K Kp w hp hI => ?_⟩
  obtain ⟨args', hl, h1, h2, h3⟩ := bor_ok hI.1 bor args _ hp hI.2
  simp only at h1
  split at h1
  · rename_i hall
    obtain ⟨hn, hlt⟩ := reach_ok H 500 (rIdx H 0 ++ SV.refsL args') [] (by simp) (by simp)
    generalize reach H 500 (rIdx H 0 ++ SV.refsL args') [] = idx at *
    have hd : ∀ h ∈ hl, h ∉ idx := by
      intro h hh
      have := List.all_eq_true.1 hall h hh
      simpa using this
    have hok := loc_hok hI.1 hn hlt hd
    have hin : HInv C (SV.renL (into idx) args') (locH H idx (rest H idx hl w)) w := ⟨hok, SV.renL_valid _ _ _ _ (h3 _ fun j hj => loc_owns hI.1 hd hj)⟩
    have hc := hs.calls _ _ _ _ w (h1 (rest H idx hl w)) hin
    rw [SV.renL_toV, h2] at hc
    refine hc.mono ?_
    rintro e w' (⟨r, H', rfl, hk, hH', hr, hst⟩ | ⟨r, H', rfl, hk, hH', hr, hst⟩)
    · obtain ⟨H2, g0, g1, g2, g3⟩ := locOut_ok hI.1 hn hlt hd hk hH' hr hst
      exact .inl ⟨_, _, by rw [SV.ren_toV], g0, g1, g2, g3⟩
    · obtain ⟨H2, g0, g1, g2, g3⟩ := locOut_ok hI.1 hn hlt hd hk hH' hr hst
      exact .inr ⟨_, _, by rw [SV.ren_toV], g0, g1, g2, g3⟩
  · exact h1.elim
end Go.Vg
/-
  What a function gives back: rows that are frozen; memory that is swept.
-/
set_option linter.unusedVariables false
namespace Go.Vg
variable {T : Tys}

mutual
/-- Rows of one's own that are given back become rows that are read alone. -/
def frz : SV T → List (Ent T) → (SV T → List (Ent T) → VCT) → VCT
  | .o h e x n, H, k => match H.getD h .X with
    | .O x' e' l => .fact (x = x' ∧ n = l.length) (k (.ro e' x l) (H.set h .X))
    | _ => .ff "freeze: no row of its own"
  | .t xs, H, k => frzL xs H fun ys H => k (.t ys) H
  | x, H, k => k x H
def frzL : List (SV T) → List (Ent T) → (List (SV T) → List (Ent T) → VCT) → VCT
  | [], H, k => k [] H
  | x :: r, H, k => frz x H fun y H => frzL r H fun ys H => k (y :: ys) H
end
def sweep (n0 : Nat) (K : SV T → List (Ent T) → VCT) (r : SV T) (H : List (Ent T)) : VCT :=
  if n0 ≤ H.length then
    let idx := reach H 500 (r.refs ++ (H.take n0).flatMap Ent.refs) (List.range n0)
    let gone := (List.range H.length).filter fun i => !idx.contains i
    updRK (gone.map fun h => H.getD h .X) (idx.map fun h => (H.getD h .X).ren (posOf idx)) fun H' => K (r.ren (posOf idx)) H'
  else .ff "sweep"
def outK (fz : Bool) (n0 : Nat) (K : SV T → List (Ent T) → VCT) (r : SV T) (H : List (Ent T)) : VCT :=
  if fz then frz r H (sweep n0 K) else sweep n0 K r H

theorem set_X {H : List (Ent T)} {h : Nat} : ∀ (i : Nat) (e : Ent T), (H.set h .X)[i]? = some e → e = .X ∨ H[i]? = some e := by
  intro i e hi
  rw [List.getElem?_set] at hi
  split at hi
  · split at hi
    · exact .inl (Option.some.inj hi).symm
    · cases hi
  · exact .inr hi

abbrev Frz (C : Ctx T) (H : List (Ent T)) (w : World) (r : SV T) (k : SV T → List (Ent T) → VCT) : Prop :=
  ∃ r' H', r'.toV = r.toV ∧ (k r' H').den ∧ HOK C H' w ∧ r'.valid (Owns H') w ∧ Stp (Owns H) (Owns H') w w

theorem frz_one {C : Ctx T} {w : World} {x : SV T} {H : List (Ent T)} {k : SV T → List (Ent T) → VCT} (h : (k x H).den) (hH : HOK C H w) (hx : x.valid (Owns H) w) : Frz C H w x k := ⟨x, H, rfl, h, hH, hx, Stp.refl _ _⟩
mutual
theorem frz_ok {C : Ctx T} {w : World} : ∀ (x : SV T) (H : List (Ent T)) (k : SV T → List (Ent T) → VCT), (frz x H k).den → HOK C H w → x.valid (Owns H) w → Frz C H w x k
  | .o h e x n, H, k, hk, hH, hx => by
    unfold frz at hk
    split at hk
    · rename_i x' e' l he
      obtain ⟨⟨rfl, rfl⟩, hk⟩ := hk
      have hent : (H.getD h .X).ok (Owns H) w := ent_ok (S := { fr := Fr.nil, H := H }) hH h
      rw [he] at hent
      have hn := ent_get (S := { fr := Fr.nil, H := H }) (h := h) he (by intro h; cases h)
      obtain ⟨g1, g2⟩ := drop_hok hH (set_X (H := H) (h := h))
      refine ⟨.ro e' x l, H.set h .X, rfl, hk, g1, ?_, g2⟩
      rcases hent.2 with ⟨hv0, hl⟩ | ⟨g, cap, cur, hv0, _, _, hnc, hm, _⟩
      · exact ⟨none, 0, by rw [hv0, hl], by omega, by decide, fun h0 => by omega⟩
      · refine ⟨_, cap, hv0, hnc, hm, fun h0 => ?_⟩
        obtain ⟨g', cap', hv', _, _, hc⟩ := own_cells hent h0
        rw [hv0] at hv'
        cases hv'
        refine ⟨_, rfl, ?_, hH.lt g ⟨h, _, hn, by rw [hv0]; rfl⟩, hc⟩
        rintro ⟨i, e1, hi, he1⟩
        rw [List.getElem?_set] at hi
        split at hi
        · split at hi
          · rw [← Option.some.inj hi] at he1; exact he1.elim
          · cases hi
        · rename_i hne
          exact hne (hH.apart h i _ _ g hn hi (by rw [hv0]; rfl) he1)
    · exact hk.elim
  | .t xs, H, k, hk, hH, hx => by
    obtain ⟨ys, H', h1, h2, h3, h4, h5⟩ := frzL_ok xs H _ hk hH hx
    exact ⟨.t ys, H', by simp only [SV.toV, h1], h2, h3, h4, h5⟩
  | .un, H, k, hk, hH, hx | .v _, H, k, hk, hH, hx | .p _ _ _, H, k, hk, hH, hx | .s _ _ _ _ _ _ _, H, k, hk, hH, hx | .ov _ _ _ _ _ _, H, k, hk, hH, hx | .w _ _, H, k, hk, hH, hx | .q _ _ _ _ _, H, k, hk, hH, hx
  | .ro _ _ _, H, k, hk, hH, hx | .rq _ _ _ _ _, H, k, hk, hH, hx | .i _ _, H, k, hk, hH, hx | .a _, H, k, hk, hH, hx | .f _ _ _, H, k, hk, hH, hx => frz_one hk hH hx
theorem frzL_ok {C : Ctx T} {w : World} : ∀ (xs : List (SV T)) (H : List (Ent T)) (k : List (SV T) → List (Ent T) → VCT), (frzL xs H k).den → HOK C H w → SV.validL (Owns H) w xs →
    ∃ ys H', SV.toVL ys = SV.toVL xs ∧ (k ys H').den ∧ HOK C H' w ∧ SV.validL (Owns H') w ys ∧ Stp (Owns H) (Owns H') w w
  | [], H, k, hk, hH, hx => ⟨[], H, rfl, hk, hH, trivial, Stp.refl _ _⟩
  | x :: r, H, k, hk, hH, hx => by
    obtain ⟨y, H1, h1, h2, h3, h4, h5⟩ := frz_ok x H _ hk hH hx.1
    obtain ⟨ys, H2, g1, g2, g3, g4, g5⟩ := frzL_ok r H1 _ h2 h3 (SV.validL_step h5 r hx.2)
    exact ⟨y :: ys, H2, by simp only [SV.toVL, h1, g1], g2, g3, ⟨SV.valid_step g5 y h4, g4⟩, h5.trans g5⟩
end

theorem sweep_ok {C : Ctx T} {w : World} {n0 : Nat} {K : SV T → List (Ent T) → VCT} {r : SV T} {H : List (Ent T)} (h : (sweep n0 K r H).den) (hH : HOK C H w) (hr : r.valid (Owns H) w) : Frz C H w r K := by
  unfold sweep at h
  split at h
  · rename_i hle
    obtain ⟨hn, hlt⟩ := reach_ok H 500 (r.refs ++ (H.take n0).flatMap Ent.refs) (List.range n0) List.nodup_range (fun h hh => by simp at hh; omega)
    simp only [updRK_eq] at h
    generalize reach H 500 (r.refs ++ (H.take n0).flatMap Ent.refs) (List.range n0) = idx at *
    have get : ∀ (i : Nat) (e : Ent T), (idx.map fun h => (H.getD h .X).ren (posOf idx))[i]? = some e → ∃ g : Nat, idx[i]? = some g ∧ g < H.length ∧ e = (H.getD g .X).ren (posOf idx) := by
      intro i e hi
      rw [List.getElem?_map, Option.map_eq_some_iff] at hi
      obtain ⟨g, hg, rfl⟩ := hi
      exact ⟨g, hg, hlt g (List.mem_of_getElem? hg), rfl⟩
    have sub : ∀ k, Owns (idx.map fun h => (H.getD h .X).ren (posOf idx)) k → Owns H k := by
      rintro k ⟨i, e, hi, he⟩
      obtain ⟨g, _, hg, rfl⟩ := get i e hi
      exact owns_getD ((Ent.ren_has _ _ _).1 he)
    have s : Stp (Owns H) (Owns (idx.map fun h => (H.getD h .X).ren (posOf idx))) w w := ⟨rfl, rfl, rfl, Nat.le_refl _, fun _ _ _ => rfl, fun k hk => .inl (sub k hk)⟩
    have hnew : HOK C (idx.map fun h => (H.getD h .X).ren (posOf idx)) w := by
     refine ⟨fun i e hi => ?_, fun i j e e' k hi hj he he' => ?_, fun k hk => hH.lt k (sub k hk), fun g v hg => ?_⟩
     · obtain ⟨g, _, hg, rfl⟩ := get i e hi
       exact Ent.ren_ok _ _ (Ent.ok_step s _ (hH.ents g _ (getD_ent H g hg)) (fun _ _ => rfl))
     · obtain ⟨g, h1, hg, rfl⟩ := get i e hi
       obtain ⟨g', h1', hg', rfl⟩ := get j e' hj
       have := hH.apart g g' _ _ k (getD_ent H g hg) (getD_ent H g' hg') ((Ent.ren_has _ _ _).1 he) ((Ent.ren_has _ _ _).1 he')
       subst this
       exact nodup_get hn h1 h1'
     · obtain ⟨h1, h2, h3, h4⟩ := hH.glob g v hg
       exact ⟨h1, h2, fun h => h3 (sub g h), h4⟩
    obtain ⟨k1, k2⟩ := leave_hok (gone := ((List.range H.length).filter fun i => !idx.contains i).map fun h => H.getD h .X) hH hnew s (by
      intro e he
      obtain ⟨i, hi, rfl⟩ := List.mem_map.1 he
      rw [List.mem_filter, List.mem_range] at hi
      refine ⟨⟨_, hH.ents i _ (getD_ent H i hi.1)⟩, fun k hk => ?_⟩
      rintro ⟨j, e', hj, hk'⟩
      obtain ⟨g, h1, hg, rfl⟩ := get j e' hj
      have := hH.apart i g _ _ k (getD_ent H i hi.1) (getD_ent H g hg) hk ((Ent.ren_has _ _ _).1 hk')
      subst this
      have h2 := hi.2
      have h3 := List.mem_of_getElem? h1
      simp only [Bool.not_eq_true', List.contains_eq_mem, decide_eq_false_iff_not] at h2
      exact h2 h3)
    exact ⟨_, _, SV.ren_toV _ _, h, k1, SV.ren_valid _ _ _ _ (SV.valid_step k2 r hr), k2⟩
  · exact h.elim

theorem outK_ok {C : Ctx T} {w : World} {fz : Bool} {n0 : Nat} {K : SV T → List (Ent T) → VCT} {r : SV T} {H : List (Ent T)} (h : (outK fz n0 K r H).den) (hH : HOK C H w) (hr : r.valid (Owns H) w) : Frz C H w r K := by
  unfold outK at h
  split at h
  · obtain ⟨r1, H1, h1, h2, h3, h4, h5⟩ := frz_ok r H _ h hH hr
    obtain ⟨r2, H2, g1, g2, g3, g4, g5⟩ := sweep_ok h2 h3 h4
    exact ⟨r2, H2, g1.trans h1, g2, g3, g4, h5.trans g5⟩
  · exact sweep_ok h hH hr

/-- ████ A CONTRACT FROM A FUNCTION's TEXT. ████ -/
theorem spec_of {C : Ctx T} (hz : ZOK C) {sp : Nat → Option (PT T)} (hsp : ∀ f pt, sp f = some pt → SpecOK C f pt) (hm : C.P.follows .mixedOrders = true) (ann : Ann T) {f : Nat} {fn : Func} (hf : C.P.funcs[f]? = some fn)
    (hname : (fn.name == "runtime.NumGoroutine") = false) (hb : fn.body.isSome = true) (hlx : lexF fn = true) (fz : Bool) {pt : PT T} (h : ∀ args H K Kp, (pt args H K Kp).den → Met (fnx C sp ann fn args H (outK fz H.length K) Kp)) : SpecOK C f pt := by
  obtain ⟨c, hc⟩ := Option.isSome_iff_exists.mp hb
  refine ⟨fun args w => MuLone.run_callFunc_enter hf hname hc args w, fun args H K Kp w hp hI => ?_⟩
  refine (fnx_ok hz hsp hm hf hlx (h args H K Kp hp).den hI).mono ?_
  rintro e w' (⟨r, H', rfl, hk, hH', hr, hst⟩ | ⟨r, H', rfl, hk, hH', hr, hst⟩)
  · obtain ⟨r2, H2, g1, g2, g3, g4, g5⟩ := outK_ok hk hH' hr
    exact .inl ⟨r2, H2, by rw [g1], g2, g3, g4, hst.trans g5⟩
  · exact .inr ⟨r, H', rfl, hk, hH', hr, hst⟩
end Go.Vg
/-
  Functions that are read on the spot; the whole of a call.
-/
set_option linter.unusedVariables false
namespace Go.Vg
variable {T : Tys}

/-- Contracts: first those that are given; the others' texts are read on the spot, d deep. -/
def inlD (C : Ctx T) (base : Nat → Option (PT T)) (body : Nat → Option (Func × Ann T)) : Nat → Nat → Option (PT T)
  | 0, f => base f
  | d + 1, f => match base f with
    | some pt => some pt
    | none => match body f with
      | some (fn, ann) => some (fnx C (inlD C base body d) ann fn)
      | none => none

def BodyOK (C : Ctx T) (body : Nat → Option (Func × Ann T)) : Prop := ∀ f fn ann, body f = some (fn, ann) → C.P.funcs[f]? = some fn ∧ (fn.name == "runtime.NumGoroutine") = false ∧ fn.body.isSome = true ∧ lexF fn = true

theorem inlD_ok {C : Ctx T} (hz : ZOK C) (hm : C.P.follows .mixedOrders = true) {base : Nat → Option (PT T)} (hbase : ∀ f pt, base f = some pt → SpecOK C f pt) {body : Nat → Option (Func × Ann T)} (hbody : BodyOK C body) :
    ∀ (d : Nat) (f : Nat) (pt : PT T), inlD C base body d f = some pt → SpecOK C f pt
  | 0 => hbase
  | d + 1 => by
    intro f pt h
    unfold inlD at h
    split at h
    · rename_i p hp
      cases h
      exact hbase f _ hp
    · split at h
      · rename_i fn ann hb
        cases h
        obtain ⟨h1, h2, h3, h4⟩ := hbody f fn ann hb
        exact spec_of_fnx hz (inlD_ok hz hm hbase hbody d) hm h1 h2 h4 (fun _ _ _ _ h => h) h3
      · cases h

/-- ████ A WHOLE CALL: from its conditions. ████ -/
theorem top_ok {C : Ctx T} {f : Nat} {pt : PT T} (hs : SpecOK C f pt) (args : List (SV T)) (w : World) (hg : ∀ g v, (g, v) ∈ C.glob → w.cell? ⟨g, 0, none⟩ = some v ∧ v.oneCell' = true ∧ g < w.heap.size)
    (ha : SV.validL (fun _ => False) w args) (v : Value) (hc : Met (pt args [] (fun r _ => .leaf (r.toV = v)) (fun _ _ => .ff "it panics"))) :
    Calls C.P f (SV.toVL args).toArray w fun e w' => e = .returned v ∧ RowKit.Below w.heap.size w w' := by
  have h := hc.den
  have no : ∀ k, ¬ Owns ([] : List (Ent T)) k := by rintro k ⟨i, e, hi, _⟩; simp at hi
  have e1 : (Owns ([] : List (Ent T))) = fun _ => False := by funext k; simpa using no k
  refine (hs.calls args [] _ _ w h ⟨⟨fun i e hi => by simp at hi, fun i j e e' k hi => by simp at hi, fun k hk => (no k hk).elim, fun g v hv => ⟨(hg g v hv).1, (hg g v hv).2.1, no g, (hg g v hv).2.2⟩⟩, by rw [e1]; exact ha⟩).mono ?_
  rintro e w' (⟨r, H', rfl, hk, hH', hr, hst⟩ | ⟨r, H', rfl, hk, hH', hr, hst⟩)
  · refine ⟨by rw [show r.toV = v from hk], ?_⟩
    exact ⟨hst.os, hst.tape, hst.output, hst.size, fun b hb => hst.block b hb (no b)⟩
  · exact hk.elim

/-- Pieces of zero values: plain cells, rows as long as they say. -/
def zeroB : List (Seg T) → Bool
  | [] => true
  | .c (.v x) :: r => x.oneCell' && zeroB r
  | .r _ n l :: r => Nat.beq l.length n && zeroB r
  | _ => false
theorem zeroB_ok (I : Nat → Prop) (w : World) : ∀ z : List (Seg T), zeroB z = true → Seg.validL I w z
  | [], _ => trivial
  | .c x :: r, h => by
    cases x with
    | v x =>
      simp only [zeroB, Bool.and_eq_true] at h
      exact ⟨⟨h.1, h.1⟩, zeroB_ok I w r h.2⟩
    | _ => cases h
  | .r e n l :: r, h => by
    simp only [zeroB, Bool.and_eq_true] at h
    exact ⟨Nat.eq_of_beq_eq_true h.1, zeroB_ok I w r h.2⟩
theorem zOK_of {C : Ctx T} (h : ∀ t z, C.zt t = some z → ((C.P.info? t).bind (·.zero)).map (·.cells.toList) = some (Seg.cellsL z) ∧ zeroB z = true) : ZOK C :=
  fun t z hz => ⟨(h t z hz).1, fun I w => zeroB_ok I w z (h t z hz).2⟩
end Go.Vg
/-
  Contracts as records (what a function asks, and what it gives); deferred calls; functions that recover.
-/
set_option linter.unusedVariables false
namespace Go.Vg
variable {T : Tys}

/-- One way in which a call may end: with a value and a heap, for some y of which psi holds. -/
structure Out (T : Tys) (X : Type) where
  Y : X → Type
  psi : (x : X) → Y x → Prop
  res : (x : X) → Y x → SV T
  H : (x : X) → Y x → List (Ent T)
/-- A contract: for each x of X that fits, called with these arguments over this heap, the function returns in one of these ways, or panics in one of those. -/
structure Ctr (T : Tys) where
  X : Type
  find : List (SV T) → List (Ent T) → Option X
  phi : X → Prop
  args : X → List (SV T)
  H : X → List (Ent T)
  outs : List (Out T X)
  pans : List (Out T X) := []

def allOut {X : Type} (x : X) (K : SV T → List (Ent T) → VCT) : List (Out T X) → List VCT
  | [] => []
  | o :: r => .all (o.Y x) (fun y => .asm (o.psi x y) (K (o.res x y) (o.H x y))) :: allOut x K r
def andL : List VCT → VCT
  | [] => .leaf True
  | [a] => a
  | a :: r => .and a (andL r)
def anyOut {X : Type} (x : X) (r : SV T) (H : List (Ent T)) : List (Out T X) → VCT
  | [] => .ff "an end that is not among the contract's"
  | [o] => .ex (o.Y x) fun y => .fact (o.psi x y) (mSV r (o.res x y) (mH H (o.H x y) (.leaf True)))
  | o :: rest => .or (.ex (o.Y x) fun y => .fact (o.psi x y) (mSV r (o.res x y) (mH H (o.H x y) (.leaf True)))) (anyOut x r H rest)
def Ctr.pt (c : Ctr T) : PT T := fun args H K Kp =>
  match c.find args H with
  | some x => .fact (c.phi x) (mSVL args (c.args x) (mH H (c.H x) (andL (allOut x K c.outs ++ allOut x Kp c.pans))))
  | none => .ff "a contract that does not fit"
def Ctr.ret (c : Ctr T) (x : c.X) (r : SV T) (H : List (Ent T)) : VCT := anyOut x r H c.outs
def Ctr.pan (c : Ctr T) (x : c.X) (r : SV T) (H : List (Ent T)) : VCT := anyOut x r H c.pans

theorem andL_ok : ∀ (l : List VCT), (andL l).den → ∀ a ∈ l, a.den
  | [], _, a, h => by simp at h
  | [b], hd, a, h => by simp at h; subst h; exact hd
  | b :: c :: r, hd, a, h => by
    rcases List.mem_cons.1 h with rfl | h
    · exact hd.1
    · exact andL_ok (c :: r) hd.2 a h
theorem allOut_ok {X : Type} {x : X} {K : SV T → List (Ent T) → VCT} : ∀ (l : List (Out T X)) (o : Out T X), o ∈ l → (.all (o.Y x) (fun y => .asm (o.psi x y) (K (o.res x y) (o.H x y))) : VCT) ∈ allOut x K l
  | [], o, h => by simp at h
  | p :: r, o, h => by
    rcases List.mem_cons.1 h with rfl | h
    · exact List.mem_cons_self
    · exact List.mem_cons_of_mem _ (allOut_ok r o h)
theorem anyOut_ok {X : Type} {x : X} {r : SV T} {H : List (Ent T)} : ∀ (l : List (Out T X)), (anyOut x r H l).den → ∃ o ∈ l, ∃ y, o.psi x y ∧ (mSV r (o.res x y) (mH H (o.H x y) (.leaf True))).den
  | [], h => h.elim
  | [o], ⟨y, h1, h2⟩ => ⟨o, List.mem_cons_self, y, h1, h2⟩
  | o :: p :: rest, h => by
    rcases h with ⟨y, h1, h2⟩ | h
    · exact ⟨o, List.mem_cons_self, y, h1, h2⟩
    · obtain ⟨q, h1, h2⟩ := anyOut_ok (p :: rest) h
      exact ⟨q, List.mem_cons_of_mem _ h1, h2⟩

theorem ret_ok {C : Ctx T} {w : World} {r res : SV T} {H H' : List (Ent T)} (h : (mSV r res (mH H H' (.leaf True))).den) (hH : HOK C H w) (hr : r.valid (Owns H) w) :
    r.toV = res.toV ∧ HOK C H' w ∧ res.valid (Owns H') w ∧ Stp (Owns H) (Owns H') w w := by
  obtain ⟨h1, h2, h3⟩ := mSV_ok _ _ _ h
  obtain ⟨_, h4, h5⟩ := mH_hok h1 hH
  exact ⟨h2, h4, SV.valid_step h5 _ (h3 _ _ hr), h5⟩

/-- A contract holds: by what a function's run comes to. -/
theorem ctr_spec {C : Ctx T} {f : Nat} (c : Ctr T) (he : ∀ args w, (callFunc f args).run C.P w = .ok (.enter f args) w)
    (h : ∀ x, c.phi x → ∀ w, HInv C (c.args x) (c.H x) w → Calls C.P f (SV.toVL (c.args x)).toArray w (EndOK C (c.H x) w (c.ret x) (c.pan x))) : SpecOK C f c.pt := by
  refine ⟨he, fun args H K Kp w hp hI => ?_⟩
  unfold Ctr.pt at hp
  split at hp
  · rename_i x hx
    obtain ⟨hphi, hp⟩ := hp
    obtain ⟨hp, ha, hv⟩ := mSVL_ok _ _ _ hp
    obtain ⟨hall, hH1, hs1⟩ := mH_hok hp hI.1
    have hin : HInv C (c.args x) (c.H x) w := ⟨hH1, SV.validL_step hs1 _ (hv _ _ hI.2)⟩
    have hc := h x hphi w hin
    rw [ha]
    refine hc.mono ?_
    rintro e w' (⟨r, H2, rfl, hk, hH2, hr, hst⟩ | ⟨r, H2, rfl, hk, hH2, hr, hst⟩)
    · obtain ⟨o, ho, y, hpsi, hk2⟩ := anyOut_ok _ hk
      obtain ⟨g1, g2, g3, g4⟩ := ret_ok hk2 hH2 hr
      have hk := andL_ok _ hall _ (List.mem_append_left _ (allOut_ok c.outs o ho))
      exact .inl ⟨_, _, by rw [g1], hk y hpsi, g2, g3, (hs1.trans hst).trans g4⟩
    · obtain ⟨o, ho, y, hpsi, hk2⟩ := anyOut_ok _ hk
      obtain ⟨g1, g2, g3, g4⟩ := ret_ok hk2 hH2 hr
      have hk := andL_ok _ hall _ (List.mem_append_right _ (allOut_ok c.pans o ho))
      exact .inr ⟨_, _, by rw [g1], hk y hpsi, g2, g3, (hs1.trans hst).trans g4⟩
  · exact hp.elim

/-- ████ A CONTRACT FROM A FUNCTION's TEXT. ████ -/
theorem ctr_ok {C : Ctx T} (hz : ZOK C) {sp : Nat → Option (PT T)} (hsp : ∀ f pt, sp f = some pt → SpecOK C f pt) (hm : C.P.follows .mixedOrders = true) (ann : Ann T) {f : Nat} {fn : Func} (hf : C.P.funcs[f]? = some fn)
    (hname : (fn.name == "runtime.NumGoroutine") = false) (hb : fn.body.isSome = true) (hlx : lexF fn = true) (fz : Bool) (c : Ctr T)
    (h : ∀ x, c.phi x → Met (fnx C sp ann fn (c.args x) (c.H x) (outK fz (c.H x).length (c.ret x)) (c.pan x))) : SpecOK C f c.pt := by
  obtain ⟨cd, hc⟩ := Option.isSome_iff_exists.mp hb
  refine ctr_spec c (fun args w => MuLone.run_callFunc_enter hf hname hc args w) fun x hx w hI => ?_
  refine (fnx_ok hz hsp hm hf hlx (h x hx).den hI).mono ?_
  rintro e w' (⟨r, H', rfl, hk, hH', hr, hst⟩ | ⟨r, H', rfl, hk, hH', hr, hst⟩)
  · obtain ⟨r2, H2, g1, g2, g3, g4, g5⟩ := outK_ok hk hH' hr
    exact .inl ⟨r2, H2, by rw [g1], g2, g3, g4, hst.trans g5⟩
  · exact .inr ⟨r, H', rfl, hk, hH', hr, hst⟩

/-! ### Deferred calls -/
structure Dc (T : Tys) where
  f : Nat
  args : List (SV T)
/-- What a deferred call asks and gives: u, the panic that is under way. It returns; behind it the panic goes on, or not. -/
abbrev PTD (T : Tys) := List (SV T) → List (Ent T) → Option (SV T) → (Option (SV T) → List (Ent T) → VCT) → VCT
def modeOf : Option (SV T) → FrameMode
  | none => .returning
  | some x => .panicking [{ v := x.toV, recovered := false }]
def validO (I : Nat → Prop) (w : World) : Option (SV T) → Prop
  | none => True
  | some x => x.valid I w
theorem validO_step {I I' : Nat → Prop} {w w' : World} (s : Stp I I' w w') (u : Option (SV T)) (h : validO I w u) : validO I' w' u := by
  cases u with
  | none => trivial
  | some x => exact SV.valid_step s x h
structure SpecDOK (C : Ctx T) (f : Nat) (pt : PTD T) : Prop where
  enters : ∀ args w, (callFunc f args).run C.P w = .ok (.enter f args) w
  calls : ∀ args H u K w, (pt args H u K).den → HInv C args H w → validO (Owns H) w u → CallsD C.P f (SV.toVL args).toArray (modeOf u) w fun e u' w' =>
    ∃ v u2 H', e = .returned v ∧ settle u' = modeOf u2 ∧ (K u2 H').den ∧ HOK C H' w' ∧ validO (Owns H') w' u2 ∧ Stp (Owns H) (Owns H') w w'

def leaveD (C : Ctx T) (spd : Nat → Option (PTD T)) (fn : Func) (K Kp : SV T → List (Ent T) → VCT) : List (Dc T) → St T → Option (SV T) → VCT
  | [], S, none => resK C S fn.results.toList fun l => K (tupleOf l) S.H
  | [], S, some x => Kp x S.H
  | d :: ds, S, u => match spd d.f with
    | some pt => pt d.args S.H u fun u' H => leaveD C spd fn K Kp ds { S with H := H } u'
    | none => .ff "a deferred call of a function without a contract"

def DcOK (d : Deferred) (dc : Dc T) : Prop := ∃ captured args, d = { target := .fn (.func dc.f) captured, args := args } ∧ args ++ captured = (SV.toVL dc.args).toArray
def DcsOK (I : Nat → Prop) (w : World) : List Deferred → List (Dc T) → Prop
  | [], [] => True
  | d :: ds, dc :: dcs => DcOK d dc ∧ SV.validL I w dc.args ∧ DcsOK I w ds dcs
  | _, _ => False
theorem DcsOK.step {I I' : Nat → Prop} {w w' : World} (s : Stp I I' w w') : ∀ (ds : List Deferred) (dcs : List (Dc T)), DcsOK I w ds dcs → DcsOK I' w' ds dcs
  | [], [], _ => trivial
  | [], _ :: _, h => h.elim
  | _ :: _, [], h => h.elim
  | d :: ds, dc :: dcs, h => ⟨h.1, SV.validL_step s _ h.2.1, DcsOK.step s ds dcs h.2.2⟩

theorem leaveD_ok {C : Ctx T} {spd : Nat → Option (PTD T)} (hspd : ∀ f pt, spd f = some pt → SpecDOK C f pt) {fn : Func} {K Kp : SV T → List (Ent T) → VCT} {H0 : List (Ent T)} {w0 : World} {a : Act} :
    ∀ (ds : List Deferred) (dcs : List (Dc T)) (S : St T) (u : Option (SV T)) (w : World), (leaveD C spd fn K Kp dcs S u).den → FrOK S a (Owns S.H) w → HOK C S.H w → validO (Owns S.H) w u → DcsOK (Owns S.H) w ds dcs → Stp (Owns H0) (Owns S.H) w0 w →
      Leaves C.P fn a.tmps (EndOK C H0 w0 K Kp) ds (modeOf u) w
  | [], [], S, none, w, h, hS, hH, _, _, hst => by
    obtain ⟨vs, h1, h2, h3⟩ := results_ok hS hH h
    exact ⟨_, h3, .inl ⟨_, _, rfl, h1, hH, tupleOf_valid vs h2, hst⟩⟩
  | [], [], S, some x, w, h, hS, hH, hu, _, hst => .inr ⟨x, _, rfl, h, hH, hu, hst⟩
  | [], _ :: _, S, u, w, h, hS, hH, hu, hd, hst => hd.elim
  | _ :: _, [], S, u, w, h, hS, hH, hu, hd, hst => hd.elim
  | d :: ds, dc :: dcs, S, u, w, h, hS, hH, hu, hd, hst => by
    simp only [leaveD] at h
    split at h
    · rename_i pt hpt
      obtain ⟨⟨captured, args, rfl, hargs⟩, hv, hd⟩ := hd
      obtain ⟨he, hc⟩ := hspd _ _ hpt
      refine leaves_cons (by cases u <;> simp [modeOf]) (f := dc.f) (args := (SV.toVL dc.args).toArray) (by rw [← hargs]; exact he _ _) ?_
      refine (hc dc.args S.H u _ w h ⟨hH, hv⟩ hu).mono ?_
      rintro e u' w' ⟨v, u2, H', rfl, hset, hk, hH', hu2, hs2⟩
      simp only [hset]
      exact leaveD_ok hspd ds dcs { S with H := H' } u2 w' hk (frOK_H (hS.step hs2) H') hH' hu2 (DcsOK.step hs2 _ _ hd) (hst.trans hs2)
    · exact h.elim

def isDefer (o : Oper) : Bool := match o.op with | .defer _ => true | _ => false
def hasD : Code → Bool
  | .region _ ops _ => ops.toList.any isDefer
  | .seq a b => hasD a || hasD b
  | .cond _ a b => hasD a || hasD b
  | .block _ b => hasD b
  | .loop b => hasD b
  | .scope b => hasD b
  | _ => false
def deferC (S : St T) (c : Call) : Option (Dc T) := match c.callee with
  | .value (.func f) => match evL S c.args.toList with
    | some args => some ⟨f, args⟩
    | none => none
  | .value g => match S.ev g, evL S c.args.toList with
    | some (.f (.func f) a b), some args => some ⟨f, a ++ args ++ b⟩
    | _, _ => none
  | _ => none
/-- Operations, the last of which defers a call. -/
def opsD (C : Ctx T) (sp : Nat → Option (PT T)) (ops : List Oper) : List Oper → St T → (Dc T → St T → VCT) → VCT
  | [], S, K => .ff "no deferred call"
  | [o], S, K => match o.op, o.guard with
    | .defer c, none => match deferC S c with
      | some d => K d (S.set o.dst .un)
      | none => .ff "a deferred call of what?"
    | _, _ => .ff "no deferred call"
  | o :: r, S, K => guardx ops o S (fun S => stx C o S fun y => forceF o.dst (S.set o.dst y) fun S => opsD C sp ops r S K) (fun S => opsD C sp ops r S K)
def walkD (C : Ctx T) (sp : Nat → Option (PT T)) (ann : Ann T) : Code → St T → List (Dc T) → (Ex T → St T → List (Dc T) → VCT) → VCT
  | .seq a b, S, D, K => if hasD (.seq a b) then walkD C sp ann a S D fun e S' D' => match e with
      | .normal => walkD C sp ann b S' D' K
      | e => K e S' D'
    else codex C sp ann (.seq a b) S fun e S' => K e S' D
  | .region id ops draw, S, D, K => if hasD (.region id ops draw) then (if draw then .ff "a deferred call in a drawn region" else opsD C sp ops.toList ops.toList S fun d S' => K .normal S' (d :: D))
    else codex C sp ann (.region id ops draw) S fun e S' => K e S' D
  | c, S, D, K => if hasD c then .ff "a deferred call within" else codex C sp ann c S fun e S' => K e S' D
def fnxD (C : Ctx T) (sp : Nat → Option (PT T)) (spd : Nat → Option (PTD T)) (ann : Ann T) (fn : Func) (args : List (SV T)) (H : List (Ent T)) (K Kp : SV T → List (Ent T) → VCT) : VCT :=
  match fn.body with
  | some c => if args.length ≤ fn.ntmps then forceSt (start fn args H) fun S0 => walkD C sp ann c S0 [] fun e S' D => match e with
      | .normal | .ret => leaveD C spd fn K Kp D S' none
      | .panic x => leaveD C spd fn K Kp D S' (some x)
      | _ => .ff "an end that is none"
    else .ff "more arguments than slots"
  | none => .ff "no body"

/-- Where a function stands: its state; what it has deferred. -/
structure LeadD (C : Ctx T) (S S' : St T) (a' : Act) (w w' : World) (D' : List (Dc T)) : Prop where
  fr : FrOK S' a' (Owns S'.H) w'
  H : HOK C S'.H w'
  stp : Stp (Owns S.H) (Owns S'.H) w w'
  dcs : DcsOK (Owns S'.H) w' a'.defers D'
  len : S'.fr.length = S.fr.length
def PostD (C : Ctx T) (K : Ex T → St T → List (Dc T) → VCT) (S : St T) (w : World) : Exit → Act → World → Prop :=
  fun e a' w' => ∃ ex S' D', ExM (Owns S'.H) w' ex e ∧ (K ex S' D').den ∧ LeadD C S S' a' w w' D'
theorem LeadD.trans {C : Ctx T} {S S1 S2 : St T} {a1 a2 : Act} {w w1 w2 : World} {D1 D2 : List (Dc T)} (h : LeadD C S S1 a1 w w1 D1) (k : LeadD C S1 S2 a2 w1 w2 D2) : LeadD C S S2 a2 w w2 D2 :=
  ⟨k.fr, k.H, h.stp.trans k.stp, k.dcs, k.len.trans h.len⟩
theorem lead_D {C : Ctx T} {ws : List Tmp} {S S' : St T} {a a' : Act} {w w' : World} {D : List (Dc T)} (h : Lead C ws S S' a a' w w') (hd : DcsOK (Owns S.H) w a.defers D) : LeadD C S S' a' w w' D :=
  ⟨h.fr, h.H, h.stp, by rw [h.defers]; exact DcsOK.step h.stp _ _ hd, h.len⟩

theorem deferC_ok {P : Program} {S : St T} {a : Act} {I : Nat → Prop} {w : World} (hS : FrOK S a I w) {o : Oper} {c : Call} {dc : Dc T} (ho : o.op = .defer c) (h : deferC S c = some dc) :
    ∃ d, (execOp a.eval o).run P w = .ok (.defer d) w ∧ DcOK d dc ∧ SV.validL I w dc.args := by
  unfold deferC at h
  split at h
  · rename_i f hcal
    split at h
    · rename_i args hargs
      cases h
      obtain ⟨h1, h2⟩ := evL_arr hS hargs
      refine ⟨{ target := .fn (.func f) #[], args := #[] ++ c.args.map a.eval }, ?_, ⟨#[], _, rfl, by rw [h1]; simp⟩, h2⟩
      unfold execOp
      simp only [ho, resolve, hcal]
      rfl
    · cases h
  · rename_i g _ hcal
    split at h
    · rename_i f p q args hg hargs
      cases h
      obtain ⟨h1, h2⟩ := evL_arr hS hargs
      obtain ⟨h3, h4⟩ := ev_ok hS hg
      refine ⟨{ target := .fn (.func f) (SV.toVL q).toArray, args := (SV.toVL p).toArray ++ c.args.map a.eval }, ?_, ⟨_, _, rfl, by rw [h1]; simp [toVL_append]⟩, ?_⟩
      · unfold execOp
        simp only [ho, resolve, hcal, h3, SV.toV, Deferred.ofValue]
        rfl
      · show SV.validL _ _ (p ++ args ++ q)
        rw [sv_validL_append, sv_validL_append]
        exact ⟨⟨h4.1, h2⟩, h4.2⟩
    · cases h
  · cases h

theorem opsD_ok {C : Ctx T} (hz : ZOK C) {sp : Nat → Option (PT T)} {ops : List Oper} {K : Dc T → St T → VCT} : ∀ (l : List Oper) (S : St T) (a : Act) (w : World),
    FrOK S a (Owns S.H) w → HOK C S.H w → (opsD C sp ops l S K).den → ∀ (D : List (Dc T)), DcsOK (Owns S.H) w a.defers D → ∀ Q : Exit → Act → World → Prop,
    (∀ d S' a' w', (K d S').den → LeadD C S S' a' w w' (d :: D) → Q .normal a' w') → wpList C.P ops.toArray Q l a w := by
  intro l
  induction l with
  | nil => intro S a w hS hH h; exact h.elim
  | cons o r ih =>
    intro S a w hS hH h D hD Q h1
    cases r with
    | nil =>
      simp only [opsD] at h
      split at h
      · rename_i c ho hg
        split at h
        · rename_i d hd
          obtain ⟨df, hr, hdc, hv⟩ := deferC_ok (P := C.P) hS ho hd
          unfold wpList
          rw [if_pos (by simp [Region.wanted, hg])]
          left
          unfold Oper.wp
          rw [hr, Oper.upon_defer]
          have h2 : FrOK (S.set o.dst .un) ({ a with defers := df :: a.defers }.put o.dst undef) (Owns S.H) w := by
            have : FrOK S { a with defers := df :: a.defers } (Owns S.H) w := ⟨hS.size, hS.get⟩
            exact frOK_set this o.dst (x := .un) trivial
          refine h1 d _ _ w h ⟨by rw [set_H]; exact h2, by rw [set_H]; exact hH, by rw [set_H]; exact Stp.refl _ _, ?_, set_len _ _ _⟩
          rw [set_H, put_defers]
          exact ⟨hdc, hv, hD⟩
        · exact h.elim
      · exact h.elim
    | cons o2 r2 =>
      simp only [opsD] at h
      unfold wpList
      rcases guardx_ok hS hH h with ⟨S1, hw, h, hl⟩ | ⟨S1, hw, h, hl⟩
      · rw [if_pos hw]
        left
        refine still_goes (next := fun S' => opsD C sp ops (o2 :: r2) S' K) (pan := fun _ _ => .ff "") hz hl.fr hl.H (by simpa only [forceF_eq] using h) _ _ (fun S' a' w' hn hld => ?_) (fun x S' w' hp => hp.elim)
        have hl' := hl.trans (leads_lead hld)
        refine ih S' a' w' hld.fr hld.H hn D (by rw [hl'.defers]; exact DcsOK.step hl'.stp _ _ hD) Q (fun d S2 a2 w2 hk hl2 => h1 d S2 a2 w2 hk ?_)
        exact (lead_D hl' hD).trans hl2
      · rw [if_neg (by rw [hw]; simp)]
        refine ih S1 _ w hl.fr hl.H h D (by rw [hl.defers]; exact DcsOK.step hl.stp _ _ hD) Q (fun d S2 a2 w2 hk hl2 => h1 d S2 a2 w2 hk ?_)
        exact (lead_D hl hD).trans hl2

theorem walkD_ok {C : Ctx T} (hz : ZOK C) {sp : Nat → Option (PT T)} (hsp : ∀ f pt, sp f = some pt → SpecOK C f pt) (hm : C.P.follows .mixedOrders = true) {ann : Ann T} :
    ∀ (c : Code), lexC c = true → ∀ (S : St T) (D : List (Dc T)) (K : Ex T → St T → List (Dc T) → VCT) (a : Act) (w : World), FrOK S a (Owns S.H) w → HOK C S.H w → DcsOK (Owns S.H) w a.defers D → (walkD C sp ann c S D K).den → c.wp C.P (PostD C K S w) a w := by
  intro c
  have plain : ∀ (c : Code), lexC c = true → ∀ (S : St T) (D : List (Dc T)) (K : Ex T → St T → List (Dc T) → VCT) (a : Act) (w : World), FrOK S a (Owns S.H) w → HOK C S.H w → DcsOK (Owns S.H) w a.defers D → (codex C sp ann c S fun e S' => K e S' D).den → c.wp C.P (PostD C K S w) a w := by
    intro c hlx S D K a w hS hH hD h
    refine wp_mono (codex_ok hz hsp hm c hlx S _ a w hS hH h) ?_
    rintro e a' w' ⟨ex, S', hx, hk, hl⟩
    exact ⟨ex, S', D, hx, hk, lead_D hl hD⟩
  induction c with
  | seq c1 c2 ih1 ih2 =>
    intro hlx S D K a w hS hH hD h
    unfold walkD at h
    split at h
    · simp only [lexC, Bool.and_eq_true] at hlx
      refine wp_seq (wp_mono (ih1 hlx.1 S D _ a w hS hH hD h) ?_)
      rintro e a1 w1 ⟨ex, S1, D1, hx, hk, hl⟩
      cases ex with
      | normal =>
        cases hx
        refine wp_mono (ih2 hlx.2 S1 D1 K a1 w1 hl.fr hl.H hl.dcs hk) ?_
        rintro e2 a2 w2 ⟨ex2, S2, D2, hx2, hk2, hl2⟩
        exact ⟨ex2, S2, D2, hx2, hk2, hl.trans hl2⟩
      | exit i => cases hx; exact ⟨.exit i, S1, D1, rfl, hk, hl⟩
      | goto i => cases hx; exact ⟨.goto i, S1, D1, rfl, hk, hl⟩
      | ret => cases hx; exact ⟨.ret, S1, D1, rfl, hk, hl⟩
      | panic x => obtain ⟨rfl, hx⟩ := hx; exact ⟨.panic x, S1, D1, ⟨rfl, hx⟩, hk, hl⟩
    · exact plain _ hlx S D K a w hS hH hD h
  | region id ops draw =>
    intro hlx S D K a w hS hH hD h
    unfold walkD at h
    split at h
    · split at h
      · exact h.elim
      · rename_i hdraw
        have hdraw : draw = false := by simpa using hdraw
        subst hdraw
        have := opsD_ok hz (sp := sp) ops.toList S a w hS hH h D hD (PostD C K S w) (fun d S' a' w' hk hl => ⟨.normal, S', d :: D, rfl, hk, hl⟩)
        simpa using wp_region_lit (id := id) this
    · exact plain _ hlx S D K a w hS hH hD h
  | _ =>
    intro hlx S D K a w hS hH hD h
    unfold walkD at h
    split at h
    · exact h.elim
    · exact plain _ hlx S D K a w hS hH hD h

theorem fnxD_ok {C : Ctx T} (hz : ZOK C) {sp : Nat → Option (PT T)} (hsp : ∀ f pt, sp f = some pt → SpecOK C f pt) {spd : Nat → Option (PTD T)} (hspd : ∀ f pt, spd f = some pt → SpecDOK C f pt) (hm : C.P.follows .mixedOrders = true) {ann : Ann T} {f : Nat} {fn : Func} (hf : C.P.funcs[f]? = some fn) (hlx : lexF fn = true)
    {args : List (SV T)} {H : List (Ent T)} {K Kp : SV T → List (Ent T) → VCT} {w : World} (h : (fnxD C sp spd ann fn args H K Kp).den) (hI : HInv C args H w) :
    Calls C.P f (SV.toVL args).toArray w (EndOK C H w K Kp) := by
  unfold fnxD at h
  split at h
  · rename_i c hc
    split at h
    case isFalse => exact h.elim
    rename_i hn
    rw [forceSt_eq] at h
    refine calls_of_wp_defers hf hc (wp_mono (walkD_ok hz hsp hm c (by simpa [lexF, hc] using hlx) (start fn args H) [] _ _ w (start_frok hI.2 hn) hI.1 trivial h) ?_)
    rintro e a' w' ⟨ex, S', D, hx, hk, hl⟩
    cases ex with
    | normal => cases hx; exact leaveD_ok hspd _ D S' none w' hk hl.fr hl.H trivial hl.dcs hl.stp
    | ret => cases hx; exact leaveD_ok hspd _ D S' none w' hk hl.fr hl.H trivial hl.dcs hl.stp
    | panic x => obtain ⟨rfl, hx⟩ := hx; exact leaveD_ok hspd _ D S' (some x) w' hk hl.fr hl.H hx hl.dcs hl.stp
    | exit i => exact hk.elim
    | goto i => exact hk.elim
  · exact h.elim
end Go.Vg
/-
  Functions that are deferred: with or without a recovery.
-/
set_option linter.unusedVariables false
namespace Go.Vg
variable {T : Tys}

/-- The panic that is under way ahead of a deferred call: none; one; one that was recovered. -/
inductive Rm (T : Tys) where
  | ret
  | pan (x : SV T)
  | recd (x : SV T)
def Rm.mode : Rm T → FrameMode
  | .ret => .returning
  | .pan x => .panicking [{ v := x.toV, recovered := false }]
  | .recd x => .panicking [{ v := x.toV, recovered := true }]
def Rm.of : Option (SV T) → Rm T
  | none => .ret
  | some x => .pan x
def Rm.out : Rm T → Option (SV T)
  | .pan x => some x
  | _ => none
theorem Rm.of_mode (u : Option (SV T)) : (Rm.of u).mode = modeOf u := by cases u <;> rfl
theorem Rm.settle (m : Rm T) : Go.settle m.mode = modeOf m.out := by cases m <;> rfl
def Rm.valid (I : Nat → Prop) (w : World) : Rm T → Prop
  | .pan x => x.valid I w
  | _ => True
theorem Rm.valid_out {I : Nat → Prop} {w : World} (m : Rm T) (h : m.valid I w) : validO I w m.out := by cases m <;> first | trivial | exact h
theorem Rm.valid_step {I I' : Nat → Prop} {w w' : World} (s : Stp I I' w w') (m : Rm T) (h : m.valid I w) : m.valid I' w' := by cases m <;> first | trivial | exact SV.valid_step s _ h

def isRecover (o : Oper) : Bool := match o.op with
  | .call { callee := .builtin .recover, .. } => true
  | _ => false
/-- A deferred function's text: its first operation may recover. -/
def fnxR (C : Ctx T) (sp : Nat → Option (PT T)) (ann : Ann T) (fn : Func) (args : List (SV T)) (H : List (Ent T)) (u : Option (SV T)) (K : Option (SV T) → List (Ent T) → VCT) : VCT :=
  let last : Rm T → Ex T → St T → VCT := fun m e S' => match e with
    | .normal | .ret => resK C S' fn.results.toList fun _ => K m.out S'.H
    | _ => .ff "a deferred call that panics"
  if args.length ≤ fn.ntmps then match fn.body with
  | some (.seq (.region id ops false) rest) => match ops.toList with
    | o :: r => if isRecover o && o.guard.isNone then match u with
        | some x => opsx C sp ops.toList r ((start fn args H).set o.dst x) (fun S' => codex C sp ann rest S' (last (.recd x))) (fun _ _ => .ff "a deferred call that panics")
        | none => opsx C sp ops.toList r ((start fn args H).set o.dst (.v .nilIface)) (fun S' => codex C sp ann rest S' (last .ret)) (fun _ _ => .ff "a deferred call that panics")
      else codex C sp ann (.seq (.region id ops false) rest) (start fn args H) (last (Rm.of u))
    | [] => .ff "no operations"
  | some (.region id ops false) => match ops.toList with
    | o :: r => if isRecover o && o.guard.isNone then match u with
        | some x => opsx C sp ops.toList r ((start fn args H).set o.dst x) (last (.recd x) .normal) (fun _ _ => .ff "a deferred call that panics")
        | none => opsx C sp ops.toList r ((start fn args H).set o.dst (.v .nilIface)) (last .ret .normal) (fun _ _ => .ff "a deferred call that panics")
      else codex C sp ann (.region id ops false) (start fn args H) (last (Rm.of u))
    | [] => .ff "no operations"
  | some c => codex C sp ann c (start fn args H) (last (Rm.of u))
  | none => .ff "no body"
  else .ff "more arguments than slots"

/-- Operations, one behind the other, among frames. -/
def wpListS (P : Program) (ops : Array Oper) (Q : Exit → Act → List Frame → World → Prop) : List Oper → Act → List Frame → World → Prop
  | [], a, cs, w => Q .normal a cs w
  | o :: rest, a, cs, w =>
      if Region.wanted o (yielded ops a.tmps) then
        match (execOp a.eval o).run P w with
        | .ok .recover w' =>
          match recoverD cs with
          | some (v, cs') => wpListS P ops Q rest (a.put o.dst v) cs' w'
          | none => wpListS P ops Q rest (a.put o.dst .nilIface) cs w'
        | r => o.upon P a (fun a' w' => wpListS P ops Q rest a' cs w') (fun e a' w' => Q e a' cs w') r
      else wpListS P ops Q rest (a.put o.dst undef) cs w
theorem upon_mono {P : Program} {o : Oper} {a : Act} {nx nx' : Act → World → Prop} {Q : Exit → Act → World → Prop} (h : ∀ a w, nx a w → nx' a w) : ∀ r, o.upon P a nx Q r → o.upon P a nx' Q r := by
  intro r hr
  unfold Oper.upon at hr ⊢
  split at hr
  · exact h _ _ hr
  · exact h _ _ hr
  · exact h _ _ hr
  · refine hr.mono ?_
    intro e w' he
    cases e with
    | returned v => exact h _ _ he
    | panicked c => exact he
    | outgrown => exact he
  · exact Rows.mono hr fun v w' hv => h _ _ hv
  · exact hr
  · exact hr
theorem wpListS_ops {P : Program} {ops : Array Oper} {Q : Exit → Act → List Frame → World → Prop} : ∀ (n k : Nat) (a : Act) (cs : List Frame) (w : World), k + n = ops.size → wpListS P ops Q (ops.toList.drop k) a cs w → wpOpsS P ops Q (List.range' k n) a cs w
  | 0, k, a, cs, w, hk, h => by
    rw [List.drop_eq_nil_of_le (by simp; omega)] at h
    exact h
  | n + 1, k, a, cs, w, hk, h => by
    have hlt : k < ops.toList.length := by simp; omega
    rw [List.drop_eq_getElem_cons hlt] at h
    have ho : ops[k]? = some (ops.toList[k]) := by
      rw [Array.getElem?_eq_getElem (by simpa using hlt)]
      simp
    rw [List.range'_succ]
    simp only [wpOpsS, ho]
    simp only [wpListS] at h
    have ih := fun a cs w => wpListS_ops (P := P) (ops := ops) (Q := Q) n (k + 1) a cs w (by omega)
    split at h
    · rename_i hw
      rw [if_pos hw]
      generalize (execOp a.eval ops.toList[k]).run P w = r at h ⊢
      split at h
      · split at h
        · rename_i v cs' hr
          simp only [hr]
          exact ih _ _ _ h
        · rename_i hr
          simp only [hr]
          exact ih _ _ _ h
      · rename_i hne
        split
        · exact (hne _ rfl).elim
        · exact upon_mono (fun a' w' h' => ih _ _ _ h') _ h
    · rename_i hw
      rw [if_neg hw]
      exact ih _ _ _ h

/-- Where no operation recovers. -/
theorem opsxS_ok {C : Ctx T} (hz : ZOK C) {sp : Nat → Option (PT T)} (hsp : ∀ f pt, sp f = some pt → SpecOK C f pt) {ops : List Oper} {K : St T → VCT} {pan : SV T → St T → VCT} {cs : List Frame} : ∀ (l : List Oper) (S : St T) (a : Act) (w : World),
    FrOK S a (Owns S.H) w → HOK C S.H w → (opsx C sp ops l S K pan).den → ∀ Q : Exit → Act → List Frame → World → Prop,
    (∀ S' a' w', (K S').den → Lead C (dsts l) S S' a a' w w' → Q .normal a' cs w') →
    (∀ x S' a' w', (pan x S').den → x.valid (Owns S'.H) w' → Lead C (dsts l) S S' a a' w w' → Q (.panic [{ v := x.toV, recovered := false }]) a' cs w') → wpListS C.P ops.toArray Q l a cs w := by
  intro l
  induction l with
  | nil =>
    intro S a w hS hH h Q h1 _
    exact h1 S a w h (Lead.refl _ hS hH rfl rfl)
  | cons o r ih =>
    intro S a w hS hH h Q h1 h2
    simp only [opsx] at h
    rw [dsts_cons] at h1 h2
    unfold wpListS
    rcases guardx_ok hS hH h with ⟨S1, hw, h, hl⟩ | ⟨S1, hw, h, hl⟩
    · rw [if_pos hw]
      rw [forceF_eq] at h
      have hg := opx_ok hz hsp hl.fr hl.H h (fun a' w' => wpListS C.P ops.toArray Q r a' cs w') (fun e a' w' => Q e a' cs w') (fun S' a' w' hn hld => ?_) (fun x S' w' hp hx hf hH' hst => ?_)
      · unfold Oper.wp at hg
        generalize (execOp a.eval o).run C.P w = res at hg ⊢
        split
        · exact hg.elim
        · exact hg
      · rw [forceF_eq, forceM_eq] at hn
        have hl' := hl.trans (leads_lead hld)
        refine ih S' a' w' hld.fr hld.H hn Q (fun S2 a2 w2 hk hl2 => h1 S2 a2 w2 hk ?_) (fun x S2 a2 w2 hp hx hl2 => h2 x S2 a2 w2 hp hx ?_)
        · exact hl'.trans hl2
        · exact hl'.trans hl2
      · exact h2 x S' a w' hp hx ⟨hf, hH', hl.stp.trans hst, rfl, fun _ _ => rfl, by rw [← hf.size, hS.size]⟩
    · rw [if_neg (by rw [hw]; simp)]
      rw [forceF_eq] at h
      refine ih S1 _ w hl.fr hl.H h Q (fun S2 a2 w2 hk hl2 => h1 S2 a2 w2 hk (hl.trans hl2)) (fun x S2 a2 w2 hp hx hl2 => h2 x S2 a2 w2 hp hx (hl.trans hl2))

theorem recover_run {P : Program} {a : Act} {o : Oper} {w : World} (h : isRecover o = true) : (execOp a.eval o).run P w = .ok .recover w := by
  unfold isRecover at h
  split at h
  · rename_i args ts ho
    rw [builtin_exec _ _ _ _ _ ho]
    rfl
  · cases h

theorem fnxR_ok {C : Ctx T} (hz : ZOK C) {sp : Nat → Option (PT T)} (hsp : ∀ f pt, sp f = some pt → SpecOK C f pt) (hm : C.P.follows .mixedOrders = true) {ann : Ann T} {f : Nat} {fn : Func} (hf : C.P.funcs[f]? = some fn)
    (hname : (fn.name == "runtime.NumGoroutine") = false) (hb : fn.body.isSome = true) (hlx : lexF fn = true) : SpecDOK C f (fnxR C sp ann fn) := by
  obtain ⟨c, hc⟩ := Option.isSome_iff_exists.mp hb
  refine ⟨fun args w => MuLone.run_callFunc_enter hf hname hc args w, fun args H u K w h hI hu => ?_⟩
  have hlxc : lexC c = true := by simpa [lexF, hc] using hlx
  unfold fnxR at h
  simp only at h
  split at h
  case isFalse => exact h.elim
  rename_i hn
  have hst := start_frok (fn := fn) hI.2 hn
  have hHst : (start fn args H).H = H := rfl
  -- the end
  have fin : ∀ (m : Rm T) (c₀ : Frame) (cs : List Frame) (e : Exit) (a' : Act) (w' : World) (ex : Ex T) (S' : St T), m.valid (Owns S'.H) w' → ExM (Owns S'.H) w' ex e → (match (motive := Ex T → VCT) ex with
      | .normal | .ret => resK C S' fn.results.toList fun _ => K m.out S'.H
      | _ => .ff "a deferred call that panics").den → FrOK S' a' (Owns S'.H) w' → HOK C S'.H w' → Stp (Owns H) (Owns S'.H) w w' → a'.defers = [] →
      bodyPostS C.P fn c₀ cs (fun e u' w' => ∃ v u2 H', e = .returned v ∧ settle u' = modeOf u2 ∧ (K u2 H').den ∧ HOK C H' w' ∧ validO (Owns H') w' u2 ∧ Stp (Owns H) (Owns H') w w') e a' ({ c₀ with mode := m.mode } :: cs) w' := by
    intro m c₀ cs e a' w' ex S' hmv hx hk hfr hH' hs hd
    cases ex with
    | normal =>
      cases hx
      obtain ⟨vs, h1, h2, h3⟩ := results_ok hfr hH' hk
      exact ⟨hd, m.mode, rfl, _, h3, _, m.out, _, rfl, m.settle, h1, hH', m.valid_out hmv, hs⟩
    | ret =>
      cases hx
      obtain ⟨vs, h1, h2, h3⟩ := results_ok hfr hH' hk
      exact ⟨hd, m.mode, rfl, _, h3, _, m.out, _, rfl, m.settle, h1, hH', m.valid_out hmv, hs⟩
    | _ => exact hk.elim
  -- no recovery
  have plain : ∀ (c : Code), lexC c = true → (codex C sp ann c (start fn args H) fun e S' => match (motive := Ex T → VCT) e with
      | .normal | .ret => resK C S' fn.results.toList fun _ => K (Rm.of u).out S'.H
      | _ => .ff "a deferred call that panics").den → fn.body = some c → CallsD C.P f (SV.toVL args).toArray (modeOf u) w fun e u' w' => ∃ v u2 H', e = .returned v ∧ settle u' = modeOf u2 ∧ (K u2 H').den ∧ HOK C H' w' ∧ validO (Owns H') w' u2 ∧ Stp (Owns H) (Owns H') w w' := by
    intro c hlx h hc
    refine callsD_of_wpS hf hc fun c₀ cs hmode => wpS_of_wp (wp_mono (codex_ok hz hsp hm c hlx (start fn args H) _ _ w hst hI.1 h) ?_)
    rintro e a' w' ⟨ex, S', hx, hk, hl⟩
    have e1 : c₀ = { c₀ with mode := (Rm.of u).mode } := by rw [Rm.of_mode, ← hmode]
    rw [e1]
    refine fin (Rm.of u) _ cs e a' w' ex S' ?_ hx hk hl.fr hl.H hl.stp hl.defers
    cases u with
    | none => trivial
    | some x => exact SV.valid_step hl.stp x hu
  -- a recovery
  have first : ∀ (ops : Array Oper) (o : Oper) (r : List Oper) (G : Rm T → St T → VCT) (c₀ : Frame) (cs : List Frame) (Q : Exit → Act → List Frame → World → Prop), c₀.mode = modeOf u → ops.toList = o :: r → (isRecover o && o.guard.isNone) = true →
      (match (motive := Option (SV T) → VCT) u with
        | some x => opsx C sp ops.toList r ((start fn args H).set o.dst x) (G (.recd x)) (fun _ _ => .ff "a deferred call that panics")
        | none => opsx C sp ops.toList r ((start fn args H).set o.dst (.v .nilIface)) (G .ret) (fun _ _ => .ff "a deferred call that panics")).den →
      (∀ (m : Rm T) (S' : St T) (a' : Act) (w' : World), m.valid (Owns S'.H) w' → (G m S').den → FrOK S' a' (Owns S'.H) w' → HOK C S'.H w' → Stp (Owns H) (Owns S'.H) w w' → a'.defers = [] → Q .normal a' ({ c₀ with mode := m.mode } :: cs) w') →
      wpOpsS C.P ops Q (List.range ops.size) { tmps := (SV.toVL args).toArray ++ Array.replicate (fn.ntmps - (SV.toVL args).toArray.size) undef, defers := [] } (c₀ :: cs) w := by
    intro ops o r G c₀ cs Q hmode hol hrec h hq
    rw [Bool.and_eq_true] at hrec
    rw [List.range_eq_range']
    refine wpListS_ops ops.size 0 _ _ w (by omega) ?_
    rw [List.drop_zero, hol]
    unfold wpListS
    have hg : o.guard = none := by cases hh : o.guard <;> simp_all
    rw [if_pos (by simp [Region.wanted, hg]), recover_run hrec.1]
    have harr : ops = ops.toList.toArray := by simp
    cases u with
    | none =>
      have hrd : recoverD (c₀ :: cs) = none := by simp [recoverD, hmode, modeOf]
      simp only [hrd]
      have h2 : FrOK ((start fn args H).set o.dst (.v .nilIface)) (Act.put { tmps := (SV.toVL args).toArray ++ Array.replicate (fn.ntmps - (SV.toVL args).toArray.size) undef, defers := [] } o.dst .nilIface) (Owns H) w := frOK_set hst o.dst (x := .v .nilIface) rfl
      rw [harr]
      refine opsxS_ok hz hsp r _ _ w (by rw [set_H]; exact h2) (by rw [set_H]; exact hI.1) h Q (fun S' a' w' hk hl => ?_) (fun x S' a' w' hp => hp.elim)
      have e1 : c₀ = { c₀ with mode := (Rm.ret (T := T)).mode } := by rw [show (Rm.ret (T := T)).mode = modeOf (T := T) none from rfl, ← hmode]
      rw [e1]
      exact hq .ret S' a' w' trivial hk hl.fr hl.H (by have := hl.stp; rw [set_H] at this; exact this) (by rw [hl.defers, put_defers])
    | some x =>
      have hrd : recoverD (c₀ :: cs) = some (x.toV, { c₀ with mode := .panicking [{ v := x.toV, recovered := true }] } :: cs) := by simp [recoverD, hmode, modeOf]
      simp only [hrd]
      have h2 : FrOK ((start fn args H).set o.dst x) (Act.put { tmps := (SV.toVL args).toArray ++ Array.replicate (fn.ntmps - (SV.toVL args).toArray.size) undef, defers := [] } o.dst x.toV) (Owns H) w := frOK_set hst o.dst hu
      rw [harr]
      refine opsxS_ok hz hsp r _ _ w (by rw [set_H]; exact h2) (by rw [set_H]; exact hI.1) h Q (fun S' a' w' hk hl => ?_) (fun x S' a' w' hp => hp.elim)
      exact hq (.recd x) S' a' w' trivial hk hl.fr hl.H (by have := hl.stp; rw [set_H] at this; exact this) (by rw [hl.defers, put_defers])
  split at h
  · rename_i id ops rest hc'
    rw [hc] at hc'
    cases hc'
    split at h
    · rename_i o r hol
      split at h
      · rename_i hrec
        refine callsD_of_wpS hf hc fun c₀ cs hmode => wpS_seq (wpS_region ?_)
        refine first ops o r (fun m S' => codex C sp ann rest S' fun e S' => match (motive := Ex T → VCT) e with
          | .normal | .ret => resK C S' fn.results.toList fun _ => K m.out S'.H
          | _ => .ff "a deferred call that panics") c₀ cs _ hmode hol hrec (by cases u <;> exact h) (fun m S' a' w' hmv hk hfr hH' hs hd => ?_)
        simp only [lexC, Bool.and_eq_true] at hlxc
        refine wpS_of_wp (wp_mono (codex_ok hz hsp hm rest hlxc.2 S' _ a' w' hfr hH' hk) ?_)
        rintro e a2 w2 ⟨ex, S2, hx, hk2, hl⟩
        exact fin m c₀ cs e a2 w2 ex S2 (m.valid_step hl.stp hmv) hx hk2 hl.fr hl.H (hs.trans hl.stp) (by rw [hl.defers, hd])
      · exact plain _ hlxc h hc
    · exact h.elim
  · rename_i id ops hc'
    rw [hc] at hc'
    cases hc'
    split at h
    · rename_i o r hol
      split at h
      · rename_i hrec
        refine callsD_of_wpS hf hc fun c₀ cs hmode => wpS_region ?_
        refine first ops o r (fun m S' => resK C S' fn.results.toList fun _ => K m.out S'.H) c₀ cs _ hmode hol hrec (by cases u <;> exact h) (fun m S' a' w' hmv hk hfr hH' hs hd => ?_)
        exact fin m c₀ cs .normal a' w' .normal S' hmv rfl hk hfr hH' hs hd
      · exact plain _ hlxc h hc
    · exact h.elim
  · rename_i c' _ _ hc'
    rw [hc] at hc'
    cases hc'
    exact plain _ hlxc h hc
  · rename_i hc'
    rw [hc] at hc'
    cases hc'
end Go.Vg
/-
  Functions that are read on the spot, those that defer calls too; a whole call over memory of which something is known.
-/
set_option linter.unusedVariables false
namespace Go.Vg
variable {T : Tys}

def hasDF (fn : Func) : Bool := match fn.body with
  | some c => hasD c
  | none => false
/-- Contracts: first those that are given; the others' texts are read on the spot, d deep. -/
def inl (C : Ctx T) (base : Nat → Option (PT T)) (body : Nat → Option (Func × Ann T)) : Nat → Nat → Option (PT T)
  | 0, f => base f
  | d + 1, f => match base f with
    | some pt => some pt
    | none => match body f with
      | some (fn, ann) => some (cond (hasDF fn)
          (fnxD C (inl C base body d) (fun g => match body g with
            | some (fn, ann) => some (fnxR C (inl C base body d) ann fn)
            | none => none) ann fn)
          (fnx C (inl C base body d) ann fn))
      | none => none
def inlR (C : Ctx T) (base : Nat → Option (PT T)) (body : Nat → Option (Func × Ann T)) (d : Nat) (g : Nat) : Option (PTD T) := match body g with
  | some (fn, ann) => some (fnxR C (inl C base body d) ann fn)
  | none => none

theorem specD_fnx {C : Ctx T} (hz : ZOK C) {sp : Nat → Option (PT T)} (hsp : ∀ f pt, sp f = some pt → SpecOK C f pt) {spd : Nat → Option (PTD T)} (hspd : ∀ f pt, spd f = some pt → SpecDOK C f pt) (hm : C.P.follows .mixedOrders = true) {ann : Ann T} {f : Nat} {fn : Func} (hf : C.P.funcs[f]? = some fn)
    (hname : (fn.name == "runtime.NumGoroutine") = false) (hb : fn.body.isSome = true) (hlx : lexF fn = true) : SpecOK C f (fnxD C sp spd ann fn) := by
  obtain ⟨c, hc⟩ := Option.isSome_iff_exists.mp hb
  exact ⟨fun args w => MuLone.run_callFunc_enter hf hname hc args w, fun args H K Kp w h hI => fnxD_ok hz hsp hspd hm hf hlx h hI⟩

theorem inl_ok {C : Ctx T} (hz : ZOK C) (hm : C.P.follows .mixedOrders = true) {base : Nat → Option (PT T)} (hbase : ∀ f pt, base f = some pt → SpecOK C f pt) {body : Nat → Option (Func × Ann T)} (hbody : BodyOK C body) :
    ∀ (d : Nat) (f : Nat) (pt : PT T), inl C base body d f = some pt → SpecOK C f pt
  | 0 => hbase
  | d + 1 => by
    intro f pt h
    have ih := inl_ok hz hm hbase hbody d
    unfold inl at h
    split at h
    · rename_i p hp
      cases h
      exact hbase f _ hp
    · split at h
      · rename_i fn ann hb
        cases h
        obtain ⟨h1, h2, h3, h4⟩ := hbody f fn ann hb
        cases hasDF fn with
        | false => exact spec_of_fnx hz ih hm h1 h2 h4 (fun _ _ _ _ h => h) h3
        | true =>
          refine specD_fnx hz ih (fun g pt hg => ?_) hm h1 h2 h3 h4
          split at hg
          · rename_i fn' ann' hb'
            cases hg
            obtain ⟨k1, k2, k3, k4⟩ := hbody g fn' ann' hb'
            exact fnxR_ok hz ih hm k1 k2 k3 k4
          · cases hg
      · cases h
theorem inlR_ok {C : Ctx T} (hz : ZOK C) (hm : C.P.follows .mixedOrders = true) {base : Nat → Option (PT T)} (hbase : ∀ f pt, base f = some pt → SpecOK C f pt) {body : Nat → Option (Func × Ann T)} (hbody : BodyOK C body)
    (d : Nat) (f : Nat) (pt : PTD T) (h : inlR C base body d f = some pt) : SpecDOK C f pt := by
  unfold inlR at h
  split at h
  · rename_i fn ann hb
    cases h
    obtain ⟨h1, h2, h3, h4⟩ := hbody f fn ann hb
    exact fnxR_ok hz (inl_ok hz hm hbase hbody d) hm h1 h2 h3 h4
  · cases h

/-- A contract from a text that defers calls. -/
theorem ctrD_ok {C : Ctx T} (hz : ZOK C) {sp : Nat → Option (PT T)} (hsp : ∀ f pt, sp f = some pt → SpecOK C f pt) {spd : Nat → Option (PTD T)} (hspd : ∀ f pt, spd f = some pt → SpecDOK C f pt) (hm : C.P.follows .mixedOrders = true) (ann : Ann T) {f : Nat} {fn : Func} (hf : C.P.funcs[f]? = some fn)
    (hname : (fn.name == "runtime.NumGoroutine") = false) (hb : fn.body.isSome = true) (hlx : lexF fn = true) (fz : Bool) (c : Ctr T)
    (h : ∀ x, c.phi x → Met (fnxD C sp spd ann fn (c.args x) (c.H x) (outK fz (c.H x).length (c.ret x)) (c.pan x))) : SpecOK C f c.pt := by
  obtain ⟨cd, hc⟩ := Option.isSome_iff_exists.mp hb
  refine ctr_spec c (fun args w => MuLone.run_callFunc_enter hf hname hc args w) fun x hx w hI => ?_
  refine (fnxD_ok hz hsp hspd hm hf hlx (h x hx).den hI).mono ?_
  rintro e w' (⟨r, H', rfl, hk, hH', hr, hst⟩ | ⟨r, H', rfl, hk, hH', hr, hst⟩)
  · obtain ⟨r2, H2, g1, g2, g3, g4, g5⟩ := outK_ok hk hH' hr
    exact .inl ⟨r2, H2, by rw [g1], g2, g3, g4, hst.trans g5⟩
  · exact .inr ⟨r, H', rfl, hk, hH', hr, hst⟩

/-- ████ A WHOLE CALL, over memory of which something is known. ████ -/
theorem top_known {C : Ctx T} {f : Nat} {pt : PT T} (hs : SpecOK C f pt) (args : List (SV T)) (w : World) (rel : Rel T) (hg : ∀ g v, (g, v) ∈ C.glob → w.cell? ⟨g, 0, none⟩ = some v ∧ v.oneCell' = true ∧ g < w.heap.size)
    (hr : ∀ e x l, rel e x l → roOK (fun _ => False) w e x l) (ha : SV.validL (fun _ => False) w args) (v : Value)
    (hc : Met (pt args [.F (fun _ => none), .R rel] (fun r _ => .leaf (r.toV = v)) (fun _ _ => .ff "it panics"))) :
    Calls C.P f (SV.toVL args).toArray w fun e w' => e = .returned v ∧ RowKit.Below w.heap.size w w' := by
  have h := hc.den
  have no : ∀ k, ¬ Owns (T := T) [.F (fun _ => none), .R rel] k := by
    rintro k ⟨i, e, hi, hk⟩
    match i, hi with
    | 0, hi => simp only [List.getElem?_cons_zero, Option.some.injEq] at hi; subst hi; exact hk rfl
    | 1, hi => simp only [List.getElem?_cons_succ, List.getElem?_cons_zero, Option.some.injEq] at hi; subst hi; exact hk
    | i + 2, hi => simp at hi
  have e1 : Owns (T := T) [.F (fun _ => none), .R rel] = fun _ => False := by funext k; simpa using no k
  have hok : HOK C [.F (fun _ => none), .R rel] w := by
    refine ⟨fun i e hi => ?_, fun i j e e' k hi hj hk => (no k ⟨i, e, hi, hk⟩).elim, fun k hk => (no k hk).elim, fun g v hv => ⟨(hg g v hv).1, (hg g v hv).2.1, no g, (hg g v hv).2.2⟩⟩
    match i, hi with
    | 0, hi => simp only [List.getElem?_cons_zero, Option.some.injEq] at hi; subst hi; exact fun k hk => (hk rfl).elim
    | 1, hi => simp only [List.getElem?_cons_succ, List.getElem?_cons_zero, Option.some.injEq] at hi; subst hi; rw [e1]; exact hr
    | i + 2, hi => simp at hi
  refine (hs.calls args _ _ _ w h ⟨hok, by rw [e1]; exact ha⟩).mono ?_
  rintro e w' (⟨r, H', rfl, hk, hH', hr, hst⟩ | ⟨r, H', rfl, hk, hH', hr, hst⟩)
  · refine ⟨by rw [show r.toV = v from hk], ?_⟩
    exact ⟨hst.os, hst.tape, hst.output, hst.size, fun b hb => hst.block b hb (no b)⟩
  · exact hk.elim
end Go.Vg
/-
  The seat's base: how the elements of rows are laid, the pieces of zero values, the program with its known variables.
-/
set_option linter.unusedVariables false
set_option maxRecDepth 100000
open Go Go.Vg Go.Proofs
namespace Pc
structure Sl where
  A : Option Addr
  n : Nat
  cap : Nat
structure Cd where
  sym : Int
  cnt : Int
  len : Int
  val : Int
structure Rg where
  base : Int
  len : Int
structure Pt where
  kind : Int
  v : Int
  n : Int
  s : Sl
structure Mt where
  inn : Int
  out : Int
  blocks : Int
  mode : Int
structure Nd where
  cnt : Int
  n0 : Int
  n1 : Int
  c0 : Value
  c1 : Value
def Sl.val (s : Sl) : Value := .slice s.A s.n s.cap
def EncInt (k : IntKind) : Enc Int where
  enc n := [.int k n]
  dec | [.int k' n] => if k' = k then some n else none
      | _ => none
  sz := 1
  len _ := rfl
  one := by intro x v h; simp at h; subst h; rfl
  dec_ok := by
    intro l x h
    split at h
    · split at h
      · rename_i hk; subst hk; simp at h; subst h; rfl
      · cases h
    · cases h
def EncCode : Enc Cd where
  enc x := [.int .u32 x.sym, .int .u32 x.cnt, .int .u32 x.len, .int .u32 x.val]
  dec | [.int .u32 a, .int .u32 b, .int .u32 c, .int .u32 d] => some ⟨a, b, c, d⟩
      | _ => none
  sz := 4
  len _ := rfl
  one := by intro x v h; simp at h; rcases h with rfl | rfl | rfl | rfl <;> rfl
  dec_ok := by
    intro l x h
    split at h
    · cases h; rfl
    · cases h
def EncRange : Enc Rg where
  enc x := [.int .u32 x.base, .int .u32 x.len]
  dec | [.int .u32 a, .int .u32 b] => some ⟨a, b⟩
      | _ => none
  sz := 2
  len _ := rfl
  one := by intro x v h; simp at h; rcases h with rfl | rfl <;> rfl
  dec_ok := by
    intro l x h
    split at h
    · cases h; rfl
    · cases h
def EncPut : Enc Pt where
  enc x := [.int .i64 x.kind, .int .u64 x.v, .int .u64 x.n, .slice x.s.A x.s.n x.s.cap]
  dec | [.int .i64 a, .int .u64 b, .int .u64 c, .slice A n k] => some ⟨a, b, c, ⟨A, n, k⟩⟩
      | _ => none
  sz := 4
  len _ := rfl
  one := by intro x v h; simp at h; rcases h with rfl | rfl | rfl | rfl <;> rfl
  dec_ok := by
    intro l x h
    split at h
    · cases h; rfl
    · cases h
def EncMeta : Enc Mt where
  enc x := [.int .i64 x.inn, .int .i64 x.out, .int .i64 x.blocks, .int .i64 x.mode]
  dec | [.int .i64 a, .int .i64 b, .int .i64 c, .int .i64 d] => some ⟨a, b, c, d⟩
      | _ => none
  sz := 4
  len _ := rfl
  one := by intro x v h; simp at h; rcases h with rfl | rfl | rfl | rfl <;> rfl
  dec_ok := by
    intro l x h
    split at h
    · cases h; rfl
    · cases h
def EncSl : Enc Sl where
  enc x := [.slice x.A x.n x.cap]
  dec | [.slice A n k] => some ⟨A, n, k⟩
      | _ => none
  sz := 1
  len _ := rfl
  one := by intro x v h; simp at h; subst h; rfl
  dec_ok := by
    intro l x h
    split at h
    · cases h; rfl
    · cases h
def EncStr : Enc ByteArray where
  enc x := [.string x]
  dec | [.string s] => some s
      | _ => none
  sz := 1
  len _ := rfl
  one := by intro x v h; simp at h; subst h; rfl
  dec_ok := by
    intro l x h
    split at h
    · cases h; rfl
    · cases h
def EncNode : Enc Nd where
  enc x := [.int .u32 x.cnt, .int .i64 x.n0, .int .i64 x.n1, if x.c0.oneCell' then x.c0 else .pointer none, if x.c1.oneCell' then x.c1 else .pointer none]
  dec | [.int .u32 a, .int .i64 b, .int .i64 c, .pointer p, .pointer q] => some ⟨a, b, c, .pointer p, .pointer q⟩
      | _ => none
  sz := 5
  len _ := rfl
  one := by
    intro x v h
    simp only [List.mem_cons, List.not_mem_nil, or_false] at h
    rcases h with rfl | rfl | rfl | rfl | rfl
    · rfl
    · rfl
    · rfl
    · split
      · assumption
      · rfl
    · split
      · assumption
      · rfl
  dec_ok := by
    intro l x h
    split at h
    · cases h; rfl
    · cases h
def Pk : Nat → (α : Type) × Enc α
  | 5 => ⟨Int, EncInt .u8⟩
  | 43 => ⟨Int, EncInt .u32⟩
  | 34 => ⟨Int, EncInt .u64⟩
  | 50 => ⟨Int, EncInt .u64⟩
  | 36 => ⟨Pt, EncPut⟩
  | 90 => ⟨Cd, EncCode⟩
  | 210 => ⟨Cd, EncCode⟩
  | 97 => ⟨Rg, EncRange⟩
  | 215 => ⟨Rg, EncRange⟩
  | 57 => ⟨Mt, EncMeta⟩
  | 23 => ⟨Sl, EncSl⟩
  | 42 => ⟨Sl, EncSl⟩
  | 62 => ⟨Sl, EncSl⟩
  | 9 => ⟨ByteArray, EncStr⟩
  | 222 => ⟨Nd, EncNode⟩
  | _ => ⟨Int, EncInt .i64⟩
def TT : Tys := { El := fun e => (Pk e).1, enc := fun e => (Pk e).2 }
def El (e : Nat) : Type := TT.El e
def nilS : Seg TT := .c (.v (.slice none 0 0))
def i0 (k : IntKind) : Seg TT := .c (.v (.int k 0))
def zt : Nat → Option (List (Seg TT))
  | 2 => some [i0 .i64]
  | 3 => some [i0 .i64]
  | 4 => some [.c (.v (.bool false))]
  | 5 => some [i0 .u8]
  | 9 => some [.c (.v (.string ⟨#[]⟩))]
  | 22 => some [nilS]
  | 23 => some [nilS]
  | 25 => some [nilS]
  | 26 => some [nilS]
  | 34 => some [i0 .u64]
  | 36 => some [i0 .i64, i0 .u64, i0 .u64, nilS]
  | 42 => some [nilS]
  | 43 => some [i0 .u32]
  | 50 => some [i0 .u64]
  | 57 => some [i0 .i64, i0 .i64, i0 .i64, i0 .i64]
  | 62 => some [nilS]
  | 75 => some [nilS]
  | 76 => some [nilS]
  | 90 => some [i0 .u32, i0 .u32, i0 .u32, i0 .u32]
  | 97 => some [i0 .u32, i0 .u32]
  | 101 => some [.c (.v .nilIface)]
  | 103 => some [.c (.v .nilIface)]
  | 107 => some [i0 .i64, .c (.v .nilIface), .c (.v .nilIface), .c (.v .nilIface), i0 .u64, i0 .u64, .c (.v (.bool false)), nilS, i0 .i64, i0 .u64, .c (.v (.pointer none)), .c (.v (.pointer none)), .c (.v (.pointer none))]
  | 108 => some [i0 .i64, .c (.v .nilIface), .c (.v .nilIface), .c (.v .nilIface), i0 .u64, i0 .u64, .c (.v (.bool false)), nilS, i0 .i64, i0 .u64, .c (.v (.pointer none)), .c (.v (.pointer none)), .c (.v (.pointer none))]
  | 110 => some [.c (.v (.pointer none))]
  | 113 => some [.c (.v (.pointer none))]
  | 123 => some [nilS, i0 .i64, i0 .i8]
  | 128 => some [i0 .i64, .c (.v .nilIface), i0 .u64, i0 .u64, .c (.v (.bool false)), .r 5 512 (List.replicate 512 ((0 : Int) : TT.El 5)), i0 .i64]
  | 130 => some [.c (.v (.pointer none))]
  | 132 => some [nilS, i0 .u32, i0 .u32]
  | 138 => some [nilS]
  | 141 => some [nilS, .r 43 1024 (List.replicate 1024 ((0 : Int) : TT.El 43)), i0 .u64]
  | 135 => some [nilS]
  | 149 => some [.c (.v .nilFunc)]
  | 151 => some [.c (.v .nilIface)]
  | 161 => some [.c (.v (.pointer none))]
  | 163 => some [nilS, i0 .i64, i0 .i64]
  | 165 => some [.c (.v .nilIface)]
  | 167 => some [.c (.v (.pointer none))]
  | 172 => some [i0 .i64, i0 .i64, i0 .i64, i0 .i64, .c (.v (.pointer none)), i0 .i64, .c (.v .nilIface), .c (.v .nilIface), .c (.v .nilIface), i0 .u64, i0 .u64, .c (.v (.bool false)), nilS, i0 .i64, i0 .u64, .c (.v (.pointer none)), .c (.v (.pointer none)), .c (.v (.pointer none)), i0 .i64, .c (.v .nilIface), i0 .u64, i0 .u64, .c (.v (.bool false)), .r 5 512 (List.replicate 512 ((0 : Int) : TT.El 5)), i0 .i64, nilS, i0 .i64, i0 .i8, i0 .i64, nilS, .c (.v .nilIface)]
  | 175 => some [.c (.v (.pointer none))]
  | 180 => some [i0 .i64, i0 .i64, i0 .i64, i0 .i64, .c (.v .nilIface), i0 .i64, .c (.v .nilIface), i0 .u64, i0 .u64, .c (.v (.bool false)), .r 5 512 (List.replicate 512 ((0 : Int) : TT.El 5)), i0 .i64, nilS, i0 .i64, i0 .i8, i0 .i64, i0 .i64, i0 .i64, .r 5 31 (List.replicate 31 ((0 : Int) : TT.El 5)), nilS, .c (.v .nilIface)]
  | 188 => some [.c (.v (.pointer none))]
  | 190 => some [.c (.v (.pointer none)), i0 .i64, nilS, .r 5 512 (List.replicate 512 ((0 : Int) : TT.El 5))]
  | 193 => some [.c (.v (.pointer none)), i0 .i64, nilS, .r 5 512 (List.replicate 512 ((0 : Int) : TT.El 5))]
  | 196 => some [.c (.v .nilIface)]
  | 198 => some [nilS, i0 .i64, i0 .i64]
  | 201 => some [nilS, nilS, i0 .u32, i0 .u32, i0 .u32, i0 .u32, i0 .u32]
  | 210 => some [i0 .u32, i0 .u32, i0 .u32, i0 .u32]
  | 212 => some [nilS]
  | 215 => some [i0 .u32, i0 .u32]
  | 222 => some [i0 .u32, i0 .i64, i0 .i64, .c (.v (.pointer none)), .c (.v (.pointer none))]
  | 223 => some [.r 222 1024 (List.replicate 1024 ((⟨0, 0, 0, .pointer none, .pointer none⟩ : Nd) : TT.El 222))]
  | 224 => some [nilS]
  | 227 => some [.r 43 28 (List.replicate 28 ((0 : Int) : TT.El 43))]
  | 228 => some [.r 34 28 (List.replicate 28 ((0 : Int) : TT.El 34))]
  | 232 => some [.c (.v (.pointer none))]
  | 238 => some [nilS, i0 .i64]
  | 264 => some [.c (.v (.pointer none))]
  | 267 => some [i0 .i64, .c (.v (.string ⟨#[]⟩)), .c (.v (.string ⟨#[]⟩))]
  | 269 => some [.r 210 28 (List.replicate 28 ((⟨0, 0, 0, 0⟩ : Cd) : TT.El 210))]
  | 276 => some [.r 3 19 (List.replicate 19 ((0 : Int) : TT.El 3))]
  | 278 => some [.r 5 256 (List.replicate 256 ((0 : Int) : TT.El 5))]
  | 301 => some [.r 5 32 (List.replicate 32 ((0 : Int) : TT.El 5))]
  | 310 => some [.r 210 4 (List.replicate 4 ((⟨0, 0, 0, 0⟩ : Cd) : TT.El 210))]
  | 337 => some [.r 5 1 (List.replicate 1 ((0 : Int) : TT.El 5))]
  | 20 => some [.c (.v .nilIface)]
  | 99 => some [.c (.v .nilIface)]
  | 125 => some [.c (.v .nilIface)]
  | 199 => some [nilS]
  | 204 => some [.c (.v (.pointer none))]
  | 91 => some [nilS]
  | 225 => some [.c (.v .nilFunc)]
  | _ => none
/-- Where the known errors lie: io.EOF, io.ErrUnexpectedEOF, io.ErrShortBuffer. -/
structure Gl where
  E : Addr
  U : Addr
  S : Addr
def errV (a : Addr) : Value := .iface 313 (.pointer (some a))
noncomputable def CC (G : Gl) : Ctx TT := { P := Tryz.prog, zt := zt, glob := [(0, errV G.E), (2, errV G.U), (3, errV G.S)] }
noncomputable def noAnn : Ann TT := fun _ _ => none
theorem zok (G : Gl) : ZOK (CC G) := zOK_of fun t z h => by
  have h : zt t = some z := h
  unfold zt at h
  split at h <;> first | (cases h; exact ⟨by kernel_rfl, by kernel_rfl⟩) | cases h
theorem mixed (G : Gl) : (CC G).P.follows .mixedOrders = true := by kernel_rfl
end Pc
/-
  Of each function: its text's orders of drawing make no odds; it is the program's.
-/
set_option linter.unusedVariables false
set_option maxRecDepth 100000
open Go Go.Vg Go.Proofs
namespace Pc
theorem fk3 (G : Gl) : (CC G).P.funcs[3]? = some Tryz.f3 ∧ (Tryz.f3.name == "runtime.NumGoroutine") = false ∧ Tryz.f3.body.isSome = true ∧ lexF Tryz.f3 = true := ⟨Tryz.func3, by kernel_rfl, by kernel_rfl, by kernel_rfl⟩
theorem fk32 (G : Gl) : (CC G).P.funcs[32]? = some Tryz.f32 ∧ (Tryz.f32.name == "runtime.NumGoroutine") = false ∧ Tryz.f32.body.isSome = true ∧ lexF Tryz.f32 = true := ⟨Tryz.func32, by kernel_rfl, by kernel_rfl, by kernel_rfl⟩
theorem fk34 (G : Gl) : (CC G).P.funcs[34]? = some Tryz.f34 ∧ (Tryz.f34.name == "runtime.NumGoroutine") = false ∧ Tryz.f34.body.isSome = true ∧ lexF Tryz.f34 = true := ⟨Tryz.func34, by kernel_rfl, by kernel_rfl, by kernel_rfl⟩
theorem fk49 (G : Gl) : (CC G).P.funcs[49]? = some Tryz.f49 ∧ (Tryz.f49.name == "runtime.NumGoroutine") = false ∧ Tryz.f49.body.isSome = true ∧ lexF Tryz.f49 = true := ⟨Tryz.func49, by kernel_rfl, by kernel_rfl, by kernel_rfl⟩
theorem fk53 (G : Gl) : (CC G).P.funcs[53]? = some Tryz.f53 ∧ (Tryz.f53.name == "runtime.NumGoroutine") = false ∧ Tryz.f53.body.isSome = true ∧ lexF Tryz.f53 = true := ⟨Tryz.func53, by kernel_rfl, by kernel_rfl, by kernel_rfl⟩
theorem fk59 (G : Gl) : (CC G).P.funcs[59]? = some Tryz.f59 ∧ (Tryz.f59.name == "runtime.NumGoroutine") = false ∧ Tryz.f59.body.isSome = true ∧ lexF Tryz.f59 = true := ⟨Tryz.func59, by kernel_rfl, by kernel_rfl, by kernel_rfl⟩
theorem fk60 (G : Gl) : (CC G).P.funcs[60]? = some Tryz.f60 ∧ (Tryz.f60.name == "runtime.NumGoroutine") = false ∧ Tryz.f60.body.isSome = true ∧ lexF Tryz.f60 = true := ⟨Tryz.func60, by kernel_rfl, by kernel_rfl, by kernel_rfl⟩
theorem fk63 (G : Gl) : (CC G).P.funcs[63]? = some Tryz.f63 ∧ (Tryz.f63.name == "runtime.NumGoroutine") = false ∧ Tryz.f63.body.isSome = true ∧ lexF Tryz.f63 = true := ⟨Tryz.func63, by kernel_rfl, by kernel_rfl, by kernel_rfl⟩
theorem fk64 (G : Gl) : (CC G).P.funcs[64]? = some Tryz.f64 ∧ (Tryz.f64.name == "runtime.NumGoroutine") = false ∧ Tryz.f64.body.isSome = true ∧ lexF Tryz.f64 = true := ⟨Tryz.func64, by kernel_rfl, by kernel_rfl, by kernel_rfl⟩
theorem fk72 (G : Gl) : (CC G).P.funcs[72]? = some Tryz.f72 ∧ (Tryz.f72.name == "runtime.NumGoroutine") = false ∧ Tryz.f72.body.isSome = true ∧ lexF Tryz.f72 = true := ⟨Tryz.func72, by kernel_rfl, by kernel_rfl, by kernel_rfl⟩
theorem fk84 (G : Gl) : (CC G).P.funcs[84]? = some Tryz.f84 ∧ (Tryz.f84.name == "runtime.NumGoroutine") = false ∧ Tryz.f84.body.isSome = true ∧ lexF Tryz.f84 = true := ⟨Tryz.func84, by kernel_rfl, by kernel_rfl, by kernel_rfl⟩
theorem fk88 (G : Gl) : (CC G).P.funcs[88]? = some Tryz.f88 ∧ (Tryz.f88.name == "runtime.NumGoroutine") = false ∧ Tryz.f88.body.isSome = true ∧ lexF Tryz.f88 = true := ⟨Tryz.func88, by kernel_rfl, by kernel_rfl, by kernel_rfl⟩
theorem fk92 (G : Gl) : (CC G).P.funcs[92]? = some Tryz.f92 ∧ (Tryz.f92.name == "runtime.NumGoroutine") = false ∧ Tryz.f92.body.isSome = true ∧ lexF Tryz.f92 = true := ⟨Tryz.func92, by kernel_rfl, by kernel_rfl, by kernel_rfl⟩
theorem fk97 (G : Gl) : (CC G).P.funcs[97]? = some Tryz.f97 ∧ (Tryz.f97.name == "runtime.NumGoroutine") = false ∧ Tryz.f97.body.isSome = true ∧ lexF Tryz.f97 = true := ⟨Tryz.func97, by kernel_rfl, by kernel_rfl, by kernel_rfl⟩
theorem fk98 (G : Gl) : (CC G).P.funcs[98]? = some Tryz.f98 ∧ (Tryz.f98.name == "runtime.NumGoroutine") = false ∧ Tryz.f98.body.isSome = true ∧ lexF Tryz.f98 = true := ⟨Tryz.func98, by kernel_rfl, by kernel_rfl, by kernel_rfl⟩
theorem fk99 (G : Gl) : (CC G).P.funcs[99]? = some Tryz.f99 ∧ (Tryz.f99.name == "runtime.NumGoroutine") = false ∧ Tryz.f99.body.isSome = true ∧ lexF Tryz.f99 = true := ⟨Tryz.func99, by kernel_rfl, by kernel_rfl, by kernel_rfl⟩
theorem fk100 (G : Gl) : (CC G).P.funcs[100]? = some Tryz.f100 ∧ (Tryz.f100.name == "runtime.NumGoroutine") = false ∧ Tryz.f100.body.isSome = true ∧ lexF Tryz.f100 = true := ⟨Tryz.func100, by kernel_rfl, by kernel_rfl, by kernel_rfl⟩
theorem fk102 (G : Gl) : (CC G).P.funcs[102]? = some Tryz.f102 ∧ (Tryz.f102.name == "runtime.NumGoroutine") = false ∧ Tryz.f102.body.isSome = true ∧ lexF Tryz.f102 = true := ⟨Tryz.func102, by kernel_rfl, by kernel_rfl, by kernel_rfl⟩
theorem fk118 (G : Gl) : (CC G).P.funcs[118]? = some Tryz.f118 ∧ (Tryz.f118.name == "runtime.NumGoroutine") = false ∧ Tryz.f118.body.isSome = true ∧ lexF Tryz.f118 = true := ⟨Tryz.func118, by kernel_rfl, by kernel_rfl, by kernel_rfl⟩
theorem fk120 (G : Gl) : (CC G).P.funcs[120]? = some Tryz.f120 ∧ (Tryz.f120.name == "runtime.NumGoroutine") = false ∧ Tryz.f120.body.isSome = true ∧ lexF Tryz.f120 = true := ⟨Tryz.func120, by kernel_rfl, by kernel_rfl, by kernel_rfl⟩
theorem fk125 (G : Gl) : (CC G).P.funcs[125]? = some Tryz.f125 ∧ (Tryz.f125.name == "runtime.NumGoroutine") = false ∧ Tryz.f125.body.isSome = true ∧ lexF Tryz.f125 = true := ⟨Tryz.func125, by kernel_rfl, by kernel_rfl, by kernel_rfl⟩
theorem fk126 (G : Gl) : (CC G).P.funcs[126]? = some Tryz.f126 ∧ (Tryz.f126.name == "runtime.NumGoroutine") = false ∧ Tryz.f126.body.isSome = true ∧ lexF Tryz.f126 = true := ⟨Tryz.func126, by kernel_rfl, by kernel_rfl, by kernel_rfl⟩
theorem fk129 (G : Gl) : (CC G).P.funcs[129]? = some Tryz.f129 ∧ (Tryz.f129.name == "runtime.NumGoroutine") = false ∧ Tryz.f129.body.isSome = true ∧ lexF Tryz.f129 = true := ⟨Tryz.func129, by kernel_rfl, by kernel_rfl, by kernel_rfl⟩
theorem fk130 (G : Gl) : (CC G).P.funcs[130]? = some Tryz.f130 ∧ (Tryz.f130.name == "runtime.NumGoroutine") = false ∧ Tryz.f130.body.isSome = true ∧ lexF Tryz.f130 = true := ⟨Tryz.func130, by kernel_rfl, by kernel_rfl, by kernel_rfl⟩
theorem fk133 (G : Gl) : (CC G).P.funcs[133]? = some Tryz.f133 ∧ (Tryz.f133.name == "runtime.NumGoroutine") = false ∧ Tryz.f133.body.isSome = true ∧ lexF Tryz.f133 = true := ⟨Tryz.func133, by kernel_rfl, by kernel_rfl, by kernel_rfl⟩
theorem fk138 (G : Gl) : (CC G).P.funcs[138]? = some Tryz.f138 ∧ (Tryz.f138.name == "runtime.NumGoroutine") = false ∧ Tryz.f138.body.isSome = true ∧ lexF Tryz.f138 = true := ⟨Tryz.func138, by kernel_rfl, by kernel_rfl, by kernel_rfl⟩
theorem fk141 (G : Gl) : (CC G).P.funcs[141]? = some Tryz.f141 ∧ (Tryz.f141.name == "runtime.NumGoroutine") = false ∧ Tryz.f141.body.isSome = true ∧ lexF Tryz.f141 = true := ⟨Tryz.func141, by kernel_rfl, by kernel_rfl, by kernel_rfl⟩
theorem fk151 (G : Gl) : (CC G).P.funcs[151]? = some Tryz.f151 ∧ (Tryz.f151.name == "runtime.NumGoroutine") = false ∧ Tryz.f151.body.isSome = true ∧ lexF Tryz.f151 = true := ⟨Tryz.func151, by kernel_rfl, by kernel_rfl, by kernel_rfl⟩
theorem fk153 (G : Gl) : (CC G).P.funcs[153]? = some Tryz.f153 ∧ (Tryz.f153.name == "runtime.NumGoroutine") = false ∧ Tryz.f153.body.isSome = true ∧ lexF Tryz.f153 = true := ⟨Tryz.func153, by kernel_rfl, by kernel_rfl, by kernel_rfl⟩
theorem fk154 (G : Gl) : (CC G).P.funcs[154]? = some Tryz.f154 ∧ (Tryz.f154.name == "runtime.NumGoroutine") = false ∧ Tryz.f154.body.isSome = true ∧ lexF Tryz.f154 = true := ⟨Tryz.func154, by kernel_rfl, by kernel_rfl, by kernel_rfl⟩
theorem fk155 (G : Gl) : (CC G).P.funcs[155]? = some Tryz.f155 ∧ (Tryz.f155.name == "runtime.NumGoroutine") = false ∧ Tryz.f155.body.isSome = true ∧ lexF Tryz.f155 = true := ⟨Tryz.func155, by kernel_rfl, by kernel_rfl, by kernel_rfl⟩
theorem fk156 (G : Gl) : (CC G).P.funcs[156]? = some Tryz.f156 ∧ (Tryz.f156.name == "runtime.NumGoroutine") = false ∧ Tryz.f156.body.isSome = true ∧ lexF Tryz.f156 = true := ⟨Tryz.func156, by kernel_rfl, by kernel_rfl, by kernel_rfl⟩
theorem fk160 (G : Gl) : (CC G).P.funcs[160]? = some Tryz.f160 ∧ (Tryz.f160.name == "runtime.NumGoroutine") = false ∧ Tryz.f160.body.isSome = true ∧ lexF Tryz.f160 = true := ⟨Tryz.func160, by kernel_rfl, by kernel_rfl, by kernel_rfl⟩
theorem fk163 (G : Gl) : (CC G).P.funcs[163]? = some Tryz.f163 ∧ (Tryz.f163.name == "runtime.NumGoroutine") = false ∧ Tryz.f163.body.isSome = true ∧ lexF Tryz.f163 = true := ⟨Tryz.func163, by kernel_rfl, by kernel_rfl, by kernel_rfl⟩
theorem fk164 (G : Gl) : (CC G).P.funcs[164]? = some Tryz.f164 ∧ (Tryz.f164.name == "runtime.NumGoroutine") = false ∧ Tryz.f164.body.isSome = true ∧ lexF Tryz.f164 = true := ⟨Tryz.func164, by kernel_rfl, by kernel_rfl, by kernel_rfl⟩
theorem fk167 (G : Gl) : (CC G).P.funcs[167]? = some Tryz.f167 ∧ (Tryz.f167.name == "runtime.NumGoroutine") = false ∧ Tryz.f167.body.isSome = true ∧ lexF Tryz.f167 = true := ⟨Tryz.func167, by kernel_rfl, by kernel_rfl, by kernel_rfl⟩
theorem fk170 (G : Gl) : (CC G).P.funcs[170]? = some Tryz.f170 ∧ (Tryz.f170.name == "runtime.NumGoroutine") = false ∧ Tryz.f170.body.isSome = true ∧ lexF Tryz.f170 = true := ⟨Tryz.func170, by kernel_rfl, by kernel_rfl, by kernel_rfl⟩
theorem fk171 (G : Gl) : (CC G).P.funcs[171]? = some Tryz.f171 ∧ (Tryz.f171.name == "runtime.NumGoroutine") = false ∧ Tryz.f171.body.isSome = true ∧ lexF Tryz.f171 = true := ⟨Tryz.func171, by kernel_rfl, by kernel_rfl, by kernel_rfl⟩
theorem fk173 (G : Gl) : (CC G).P.funcs[173]? = some Tryz.f173 ∧ (Tryz.f173.name == "runtime.NumGoroutine") = false ∧ Tryz.f173.body.isSome = true ∧ lexF Tryz.f173 = true := ⟨Tryz.func173, by kernel_rfl, by kernel_rfl, by kernel_rfl⟩
theorem fk174 (G : Gl) : (CC G).P.funcs[174]? = some Tryz.f174 ∧ (Tryz.f174.name == "runtime.NumGoroutine") = false ∧ Tryz.f174.body.isSome = true ∧ lexF Tryz.f174 = true := ⟨Tryz.func174, by kernel_rfl, by kernel_rfl, by kernel_rfl⟩
theorem fk181 (G : Gl) : (CC G).P.funcs[181]? = some Tryz.f181 ∧ (Tryz.f181.name == "runtime.NumGoroutine") = false ∧ Tryz.f181.body.isSome = true ∧ lexF Tryz.f181 = true := ⟨Tryz.func181, by kernel_rfl, by kernel_rfl, by kernel_rfl⟩
theorem fk199 (G : Gl) : (CC G).P.funcs[199]? = some Tryz.f199 ∧ (Tryz.f199.name == "runtime.NumGoroutine") = false ∧ Tryz.f199.body.isSome = true ∧ lexF Tryz.f199 = true := ⟨Tryz.func199, by kernel_rfl, by kernel_rfl, by kernel_rfl⟩
theorem fk203 (G : Gl) : (CC G).P.funcs[203]? = some Tryz.f203 ∧ (Tryz.f203.name == "runtime.NumGoroutine") = false ∧ Tryz.f203.body.isSome = true ∧ lexF Tryz.f203 = true := ⟨Tryz.func203, by kernel_rfl, by kernel_rfl, by kernel_rfl⟩
theorem fk205 (G : Gl) : (CC G).P.funcs[205]? = some Tryz.f205 ∧ (Tryz.f205.name == "runtime.NumGoroutine") = false ∧ Tryz.f205.body.isSome = true ∧ lexF Tryz.f205 = true := ⟨Tryz.func205, by kernel_rfl, by kernel_rfl, by kernel_rfl⟩
theorem fk206 (G : Gl) : (CC G).P.funcs[206]? = some Tryz.f206 ∧ (Tryz.f206.name == "runtime.NumGoroutine") = false ∧ Tryz.f206.body.isSome = true ∧ lexF Tryz.f206 = true := ⟨Tryz.func206, by kernel_rfl, by kernel_rfl, by kernel_rfl⟩
theorem fk209 (G : Gl) : (CC G).P.funcs[209]? = some Tryz.f209 ∧ (Tryz.f209.name == "runtime.NumGoroutine") = false ∧ Tryz.f209.body.isSome = true ∧ lexF Tryz.f209 = true := ⟨Tryz.func209, by kernel_rfl, by kernel_rfl, by kernel_rfl⟩
theorem fk211 (G : Gl) : (CC G).P.funcs[211]? = some Tryz.f211 ∧ (Tryz.f211.name == "runtime.NumGoroutine") = false ∧ Tryz.f211.body.isSome = true ∧ lexF Tryz.f211 = true := ⟨Tryz.func211, by kernel_rfl, by kernel_rfl, by kernel_rfl⟩
theorem fk212 (G : Gl) : (CC G).P.funcs[212]? = some Tryz.f212 ∧ (Tryz.f212.name == "runtime.NumGoroutine") = false ∧ Tryz.f212.body.isSome = true ∧ lexF Tryz.f212 = true := ⟨Tryz.func212, by kernel_rfl, by kernel_rfl, by kernel_rfl⟩
theorem fk222 (G : Gl) : (CC G).P.funcs[222]? = some Tryz.f222 ∧ (Tryz.f222.name == "runtime.NumGoroutine") = false ∧ Tryz.f222.body.isSome = true ∧ lexF Tryz.f222 = true := ⟨Tryz.func222, by kernel_rfl, by kernel_rfl, by kernel_rfl⟩
theorem fk223 (G : Gl) : (CC G).P.funcs[223]? = some Tryz.f223 ∧ (Tryz.f223.name == "runtime.NumGoroutine") = false ∧ Tryz.f223.body.isSome = true ∧ lexF Tryz.f223 = true := ⟨Tryz.func223, by kernel_rfl, by kernel_rfl, by kernel_rfl⟩
theorem fk225 (G : Gl) : (CC G).P.funcs[225]? = some Tryz.f225 ∧ (Tryz.f225.name == "runtime.NumGoroutine") = false ∧ Tryz.f225.body.isSome = true ∧ lexF Tryz.f225 = true := ⟨Tryz.func225, by kernel_rfl, by kernel_rfl, by kernel_rfl⟩
theorem fk228 (G : Gl) : (CC G).P.funcs[228]? = some Tryz.f228 ∧ (Tryz.f228.name == "runtime.NumGoroutine") = false ∧ Tryz.f228.body.isSome = true ∧ lexF Tryz.f228 = true := ⟨Tryz.func228, by kernel_rfl, by kernel_rfl, by kernel_rfl⟩
end Pc
/-
  Of each function: its text's orders of drawing make no odds; it is the program's.
-/
set_option linter.unusedVariables false
set_option maxRecDepth 100000
open Go Go.Vg Go.Proofs
namespace Pc
theorem fk4 (G : Gl) : (CC G).P.funcs[4]? = some Tryz.f4 ∧ (Tryz.f4.name == "runtime.NumGoroutine") = false ∧ Tryz.f4.body.isSome = true ∧ lexF Tryz.f4 = true := ⟨Tryz.func4, by kernel_rfl, by kernel_rfl, by kernel_rfl⟩
theorem fk5 (G : Gl) : (CC G).P.funcs[5]? = some Tryz.f5 ∧ (Tryz.f5.name == "runtime.NumGoroutine") = false ∧ Tryz.f5.body.isSome = true ∧ lexF Tryz.f5 = true := ⟨Tryz.func5, by kernel_rfl, by kernel_rfl, by kernel_rfl⟩
theorem fk6 (G : Gl) : (CC G).P.funcs[6]? = some Tryz.f6 ∧ (Tryz.f6.name == "runtime.NumGoroutine") = false ∧ Tryz.f6.body.isSome = true ∧ lexF Tryz.f6 = true := ⟨Tryz.func6, by kernel_rfl, by kernel_rfl, by kernel_rfl⟩
theorem fk13 (G : Gl) : (CC G).P.funcs[13]? = some Tryz.f13 ∧ (Tryz.f13.name == "runtime.NumGoroutine") = false ∧ Tryz.f13.body.isSome = true ∧ lexF Tryz.f13 = true := ⟨Tryz.func13, by kernel_rfl, by kernel_rfl, by kernel_rfl⟩
theorem fk15 (G : Gl) : (CC G).P.funcs[15]? = some Tryz.f15 ∧ (Tryz.f15.name == "runtime.NumGoroutine") = false ∧ Tryz.f15.body.isSome = true ∧ lexF Tryz.f15 = true := ⟨Tryz.func15, by kernel_rfl, by kernel_rfl, by kernel_rfl⟩
theorem fk16 (G : Gl) : (CC G).P.funcs[16]? = some Tryz.f16 ∧ (Tryz.f16.name == "runtime.NumGoroutine") = false ∧ Tryz.f16.body.isSome = true ∧ lexF Tryz.f16 = true := ⟨Tryz.func16, by kernel_rfl, by kernel_rfl, by kernel_rfl⟩
theorem fk18 (G : Gl) : (CC G).P.funcs[18]? = some Tryz.f18 ∧ (Tryz.f18.name == "runtime.NumGoroutine") = false ∧ Tryz.f18.body.isSome = true ∧ lexF Tryz.f18 = true := ⟨Tryz.func18, by kernel_rfl, by kernel_rfl, by kernel_rfl⟩
theorem fk23 (G : Gl) : (CC G).P.funcs[23]? = some Tryz.f23 ∧ (Tryz.f23.name == "runtime.NumGoroutine") = false ∧ Tryz.f23.body.isSome = true ∧ lexF Tryz.f23 = true := ⟨Tryz.func23, by kernel_rfl, by kernel_rfl, by kernel_rfl⟩
theorem fk25 (G : Gl) : (CC G).P.funcs[25]? = some Tryz.f25 ∧ (Tryz.f25.name == "runtime.NumGoroutine") = false ∧ Tryz.f25.body.isSome = true ∧ lexF Tryz.f25 = true := ⟨Tryz.func25, by kernel_rfl, by kernel_rfl, by kernel_rfl⟩
theorem fk28 (G : Gl) : (CC G).P.funcs[28]? = some Tryz.f28 ∧ (Tryz.f28.name == "runtime.NumGoroutine") = false ∧ Tryz.f28.body.isSome = true ∧ lexF Tryz.f28 = true := ⟨Tryz.func28, by kernel_rfl, by kernel_rfl, by kernel_rfl⟩
theorem fk29 (G : Gl) : (CC G).P.funcs[29]? = some Tryz.f29 ∧ (Tryz.f29.name == "runtime.NumGoroutine") = false ∧ Tryz.f29.body.isSome = true ∧ lexF Tryz.f29 = true := ⟨Tryz.func29, by kernel_rfl, by kernel_rfl, by kernel_rfl⟩
theorem fk36 (G : Gl) : (CC G).P.funcs[36]? = some Tryz.f36 ∧ (Tryz.f36.name == "runtime.NumGoroutine") = false ∧ Tryz.f36.body.isSome = true ∧ lexF Tryz.f36 = true := ⟨Tryz.func36, by kernel_rfl, by kernel_rfl, by kernel_rfl⟩
theorem fk38 (G : Gl) : (CC G).P.funcs[38]? = some Tryz.f38 ∧ (Tryz.f38.name == "runtime.NumGoroutine") = false ∧ Tryz.f38.body.isSome = true ∧ lexF Tryz.f38 = true := ⟨Tryz.func38, by kernel_rfl, by kernel_rfl, by kernel_rfl⟩
theorem fk41 (G : Gl) : (CC G).P.funcs[41]? = some Tryz.f41 ∧ (Tryz.f41.name == "runtime.NumGoroutine") = false ∧ Tryz.f41.body.isSome = true ∧ lexF Tryz.f41 = true := ⟨Tryz.func41, by kernel_rfl, by kernel_rfl, by kernel_rfl⟩
theorem fk44 (G : Gl) : (CC G).P.funcs[44]? = some Tryz.f44 ∧ (Tryz.f44.name == "runtime.NumGoroutine") = false ∧ Tryz.f44.body.isSome = true ∧ lexF Tryz.f44 = true := ⟨Tryz.func44, by kernel_rfl, by kernel_rfl, by kernel_rfl⟩
theorem fk51 (G : Gl) : (CC G).P.funcs[51]? = some Tryz.f51 ∧ (Tryz.f51.name == "runtime.NumGoroutine") = false ∧ Tryz.f51.body.isSome = true ∧ lexF Tryz.f51 = true := ⟨Tryz.func51, by kernel_rfl, by kernel_rfl, by kernel_rfl⟩
theorem fk55 (G : Gl) : (CC G).P.funcs[55]? = some Tryz.f55 ∧ (Tryz.f55.name == "runtime.NumGoroutine") = false ∧ Tryz.f55.body.isSome = true ∧ lexF Tryz.f55 = true := ⟨Tryz.func55, by kernel_rfl, by kernel_rfl, by kernel_rfl⟩
theorem fk65 (G : Gl) : (CC G).P.funcs[65]? = some Tryz.f65 ∧ (Tryz.f65.name == "runtime.NumGoroutine") = false ∧ Tryz.f65.body.isSome = true ∧ lexF Tryz.f65 = true := ⟨Tryz.func65, by kernel_rfl, by kernel_rfl, by kernel_rfl⟩
theorem fk66 (G : Gl) : (CC G).P.funcs[66]? = some Tryz.f66 ∧ (Tryz.f66.name == "runtime.NumGoroutine") = false ∧ Tryz.f66.body.isSome = true ∧ lexF Tryz.f66 = true := ⟨Tryz.func66, by kernel_rfl, by kernel_rfl, by kernel_rfl⟩
theorem fk67 (G : Gl) : (CC G).P.funcs[67]? = some Tryz.f67 ∧ (Tryz.f67.name == "runtime.NumGoroutine") = false ∧ Tryz.f67.body.isSome = true ∧ lexF Tryz.f67 = true := ⟨Tryz.func67, by kernel_rfl, by kernel_rfl, by kernel_rfl⟩
theorem fk76 (G : Gl) : (CC G).P.funcs[76]? = some Tryz.f76 ∧ (Tryz.f76.name == "runtime.NumGoroutine") = false ∧ Tryz.f76.body.isSome = true ∧ lexF Tryz.f76 = true := ⟨Tryz.func76, by kernel_rfl, by kernel_rfl, by kernel_rfl⟩
theorem fk77 (G : Gl) : (CC G).P.funcs[77]? = some Tryz.f77 ∧ (Tryz.f77.name == "runtime.NumGoroutine") = false ∧ Tryz.f77.body.isSome = true ∧ lexF Tryz.f77 = true := ⟨Tryz.func77, by kernel_rfl, by kernel_rfl, by kernel_rfl⟩
theorem fk78 (G : Gl) : (CC G).P.funcs[78]? = some Tryz.f78 ∧ (Tryz.f78.name == "runtime.NumGoroutine") = false ∧ Tryz.f78.body.isSome = true ∧ lexF Tryz.f78 = true := ⟨Tryz.func78, by kernel_rfl, by kernel_rfl, by kernel_rfl⟩
theorem fk85 (G : Gl) : (CC G).P.funcs[85]? = some Tryz.f85 ∧ (Tryz.f85.name == "runtime.NumGoroutine") = false ∧ Tryz.f85.body.isSome = true ∧ lexF Tryz.f85 = true := ⟨Tryz.func85, by kernel_rfl, by kernel_rfl, by kernel_rfl⟩
theorem fk93 (G : Gl) : (CC G).P.funcs[93]? = some Tryz.f93 ∧ (Tryz.f93.name == "runtime.NumGoroutine") = false ∧ Tryz.f93.body.isSome = true ∧ lexF Tryz.f93 = true := ⟨Tryz.func93, by kernel_rfl, by kernel_rfl, by kernel_rfl⟩
theorem fk95 (G : Gl) : (CC G).P.funcs[95]? = some Tryz.f95 ∧ (Tryz.f95.name == "runtime.NumGoroutine") = false ∧ Tryz.f95.body.isSome = true ∧ lexF Tryz.f95 = true := ⟨Tryz.func95, by kernel_rfl, by kernel_rfl, by kernel_rfl⟩
theorem fk101 (G : Gl) : (CC G).P.funcs[101]? = some Tryz.f101 ∧ (Tryz.f101.name == "runtime.NumGoroutine") = false ∧ Tryz.f101.body.isSome = true ∧ lexF Tryz.f101 = true := ⟨Tryz.func101, by kernel_rfl, by kernel_rfl, by kernel_rfl⟩
theorem fk103 (G : Gl) : (CC G).P.funcs[103]? = some Tryz.f103 ∧ (Tryz.f103.name == "runtime.NumGoroutine") = false ∧ Tryz.f103.body.isSome = true ∧ lexF Tryz.f103 = true := ⟨Tryz.func103, by kernel_rfl, by kernel_rfl, by kernel_rfl⟩
theorem fk105 (G : Gl) : (CC G).P.funcs[105]? = some Tryz.f105 ∧ (Tryz.f105.name == "runtime.NumGoroutine") = false ∧ Tryz.f105.body.isSome = true ∧ lexF Tryz.f105 = true := ⟨Tryz.func105, by kernel_rfl, by kernel_rfl, by kernel_rfl⟩
theorem fk106 (G : Gl) : (CC G).P.funcs[106]? = some Tryz.f106 ∧ (Tryz.f106.name == "runtime.NumGoroutine") = false ∧ Tryz.f106.body.isSome = true ∧ lexF Tryz.f106 = true := ⟨Tryz.func106, by kernel_rfl, by kernel_rfl, by kernel_rfl⟩
theorem fk109 (G : Gl) : (CC G).P.funcs[109]? = some Tryz.f109 ∧ (Tryz.f109.name == "runtime.NumGoroutine") = false ∧ Tryz.f109.body.isSome = true ∧ lexF Tryz.f109 = true := ⟨Tryz.func109, by kernel_rfl, by kernel_rfl, by kernel_rfl⟩
theorem fk115 (G : Gl) : (CC G).P.funcs[115]? = some Tryz.f115 ∧ (Tryz.f115.name == "runtime.NumGoroutine") = false ∧ Tryz.f115.body.isSome = true ∧ lexF Tryz.f115 = true := ⟨Tryz.func115, by kernel_rfl, by kernel_rfl, by kernel_rfl⟩
theorem fk116 (G : Gl) : (CC G).P.funcs[116]? = some Tryz.f116 ∧ (Tryz.f116.name == "runtime.NumGoroutine") = false ∧ Tryz.f116.body.isSome = true ∧ lexF Tryz.f116 = true := ⟨Tryz.func116, by kernel_rfl, by kernel_rfl, by kernel_rfl⟩
theorem fk117 (G : Gl) : (CC G).P.funcs[117]? = some Tryz.f117 ∧ (Tryz.f117.name == "runtime.NumGoroutine") = false ∧ Tryz.f117.body.isSome = true ∧ lexF Tryz.f117 = true := ⟨Tryz.func117, by kernel_rfl, by kernel_rfl, by kernel_rfl⟩
theorem fk127 (G : Gl) : (CC G).P.funcs[127]? = some Tryz.f127 ∧ (Tryz.f127.name == "runtime.NumGoroutine") = false ∧ Tryz.f127.body.isSome = true ∧ lexF Tryz.f127 = true := ⟨Tryz.func127, by kernel_rfl, by kernel_rfl, by kernel_rfl⟩
theorem fk131 (G : Gl) : (CC G).P.funcs[131]? = some Tryz.f131 ∧ (Tryz.f131.name == "runtime.NumGoroutine") = false ∧ Tryz.f131.body.isSome = true ∧ lexF Tryz.f131 = true := ⟨Tryz.func131, by kernel_rfl, by kernel_rfl, by kernel_rfl⟩
theorem fk132 (G : Gl) : (CC G).P.funcs[132]? = some Tryz.f132 ∧ (Tryz.f132.name == "runtime.NumGoroutine") = false ∧ Tryz.f132.body.isSome = true ∧ lexF Tryz.f132 = true := ⟨Tryz.func132, by kernel_rfl, by kernel_rfl, by kernel_rfl⟩
theorem fk134 (G : Gl) : (CC G).P.funcs[134]? = some Tryz.f134 ∧ (Tryz.f134.name == "runtime.NumGoroutine") = false ∧ Tryz.f134.body.isSome = true ∧ lexF Tryz.f134 = true := ⟨Tryz.func134, by kernel_rfl, by kernel_rfl, by kernel_rfl⟩
theorem fk139 (G : Gl) : (CC G).P.funcs[139]? = some Tryz.f139 ∧ (Tryz.f139.name == "runtime.NumGoroutine") = false ∧ Tryz.f139.body.isSome = true ∧ lexF Tryz.f139 = true := ⟨Tryz.func139, by kernel_rfl, by kernel_rfl, by kernel_rfl⟩
theorem fk148 (G : Gl) : (CC G).P.funcs[148]? = some Tryz.f148 ∧ (Tryz.f148.name == "runtime.NumGoroutine") = false ∧ Tryz.f148.body.isSome = true ∧ lexF Tryz.f148 = true := ⟨Tryz.func148, by kernel_rfl, by kernel_rfl, by kernel_rfl⟩
theorem fk149 (G : Gl) : (CC G).P.funcs[149]? = some Tryz.f149 ∧ (Tryz.f149.name == "runtime.NumGoroutine") = false ∧ Tryz.f149.body.isSome = true ∧ lexF Tryz.f149 = true := ⟨Tryz.func149, by kernel_rfl, by kernel_rfl, by kernel_rfl⟩
theorem fk152 (G : Gl) : (CC G).P.funcs[152]? = some Tryz.f152 ∧ (Tryz.f152.name == "runtime.NumGoroutine") = false ∧ Tryz.f152.body.isSome = true ∧ lexF Tryz.f152 = true := ⟨Tryz.func152, by kernel_rfl, by kernel_rfl, by kernel_rfl⟩
theorem fk165 (G : Gl) : (CC G).P.funcs[165]? = some Tryz.f165 ∧ (Tryz.f165.name == "runtime.NumGoroutine") = false ∧ Tryz.f165.body.isSome = true ∧ lexF Tryz.f165 = true := ⟨Tryz.func165, by kernel_rfl, by kernel_rfl, by kernel_rfl⟩
theorem fk166 (G : Gl) : (CC G).P.funcs[166]? = some Tryz.f166 ∧ (Tryz.f166.name == "runtime.NumGoroutine") = false ∧ Tryz.f166.body.isSome = true ∧ lexF Tryz.f166 = true := ⟨Tryz.func166, by kernel_rfl, by kernel_rfl, by kernel_rfl⟩
theorem fk168 (G : Gl) : (CC G).P.funcs[168]? = some Tryz.f168 ∧ (Tryz.f168.name == "runtime.NumGoroutine") = false ∧ Tryz.f168.body.isSome = true ∧ lexF Tryz.f168 = true := ⟨Tryz.func168, by kernel_rfl, by kernel_rfl, by kernel_rfl⟩
theorem fk202 (G : Gl) : (CC G).P.funcs[202]? = some Tryz.f202 ∧ (Tryz.f202.name == "runtime.NumGoroutine") = false ∧ Tryz.f202.body.isSome = true ∧ lexF Tryz.f202 = true := ⟨Tryz.func202, by kernel_rfl, by kernel_rfl, by kernel_rfl⟩
theorem fk207 (G : Gl) : (CC G).P.funcs[207]? = some Tryz.f207 ∧ (Tryz.f207.name == "runtime.NumGoroutine") = false ∧ Tryz.f207.body.isSome = true ∧ lexF Tryz.f207 = true := ⟨Tryz.func207, by kernel_rfl, by kernel_rfl, by kernel_rfl⟩
theorem fk208 (G : Gl) : (CC G).P.funcs[208]? = some Tryz.f208 ∧ (Tryz.f208.name == "runtime.NumGoroutine") = false ∧ Tryz.f208.body.isSome = true ∧ lexF Tryz.f208 = true := ⟨Tryz.func208, by kernel_rfl, by kernel_rfl, by kernel_rfl⟩
theorem fk210 (G : Gl) : (CC G).P.funcs[210]? = some Tryz.f210 ∧ (Tryz.f210.name == "runtime.NumGoroutine") = false ∧ Tryz.f210.body.isSome = true ∧ lexF Tryz.f210 = true := ⟨Tryz.func210, by kernel_rfl, by kernel_rfl, by kernel_rfl⟩
theorem fk217 (G : Gl) : (CC G).P.funcs[217]? = some Tryz.f217 ∧ (Tryz.f217.name == "runtime.NumGoroutine") = false ∧ Tryz.f217.body.isSome = true ∧ lexF Tryz.f217 = true := ⟨Tryz.func217, by kernel_rfl, by kernel_rfl, by kernel_rfl⟩
theorem fk219 (G : Gl) : (CC G).P.funcs[219]? = some Tryz.f219 ∧ (Tryz.f219.name == "runtime.NumGoroutine") = false ∧ Tryz.f219.body.isSome = true ∧ lexF Tryz.f219 = true := ⟨Tryz.func219, by kernel_rfl, by kernel_rfl, by kernel_rfl⟩
theorem fk220 (G : Gl) : (CC G).P.funcs[220]? = some Tryz.f220 ∧ (Tryz.f220.name == "runtime.NumGoroutine") = false ∧ Tryz.f220.body.isSome = true ∧ lexF Tryz.f220 = true := ⟨Tryz.func220, by kernel_rfl, by kernel_rfl, by kernel_rfl⟩
theorem fk226 (G : Gl) : (CC G).P.funcs[226]? = some Tryz.f226 ∧ (Tryz.f226.name == "runtime.NumGoroutine") = false ∧ Tryz.f226.body.isSome = true ∧ lexF Tryz.f226 = true := ⟨Tryz.func226, by kernel_rfl, by kernel_rfl, by kernel_rfl⟩
end Pc
/-
  Of each function: its text's orders of drawing make no odds; it is the program's.
-/
set_option linter.unusedVariables false
set_option maxRecDepth 100000
open Go Go.Vg Go.Proofs
namespace Pc
theorem fk7 (G : Gl) : (CC G).P.funcs[7]? = some Tryz.f7 ∧ (Tryz.f7.name == "runtime.NumGoroutine") = false ∧ Tryz.f7.body.isSome = true ∧ lexF Tryz.f7 = true := ⟨Tryz.func7, by kernel_rfl, by kernel_rfl, by kernel_rfl⟩
theorem fk8 (G : Gl) : (CC G).P.funcs[8]? = some Tryz.f8 ∧ (Tryz.f8.name == "runtime.NumGoroutine") = false ∧ Tryz.f8.body.isSome = true ∧ lexF Tryz.f8 = true := ⟨Tryz.func8, by kernel_rfl, by kernel_rfl, by kernel_rfl⟩
theorem fk17 (G : Gl) : (CC G).P.funcs[17]? = some Tryz.f17 ∧ (Tryz.f17.name == "runtime.NumGoroutine") = false ∧ Tryz.f17.body.isSome = true ∧ lexF Tryz.f17 = true := ⟨Tryz.func17, by kernel_rfl, by kernel_rfl, by kernel_rfl⟩
theorem fk20 (G : Gl) : (CC G).P.funcs[20]? = some Tryz.f20 ∧ (Tryz.f20.name == "runtime.NumGoroutine") = false ∧ Tryz.f20.body.isSome = true ∧ lexF Tryz.f20 = true := ⟨Tryz.func20, by kernel_rfl, by kernel_rfl, by kernel_rfl⟩
theorem fk21 (G : Gl) : (CC G).P.funcs[21]? = some Tryz.f21 ∧ (Tryz.f21.name == "runtime.NumGoroutine") = false ∧ Tryz.f21.body.isSome = true ∧ lexF Tryz.f21 = true := ⟨Tryz.func21, by kernel_rfl, by kernel_rfl, by kernel_rfl⟩
theorem fk22 (G : Gl) : (CC G).P.funcs[22]? = some Tryz.f22 ∧ (Tryz.f22.name == "runtime.NumGoroutine") = false ∧ Tryz.f22.body.isSome = true ∧ lexF Tryz.f22 = true := ⟨Tryz.func22, by kernel_rfl, by kernel_rfl, by kernel_rfl⟩
theorem fk24 (G : Gl) : (CC G).P.funcs[24]? = some Tryz.f24 ∧ (Tryz.f24.name == "runtime.NumGoroutine") = false ∧ Tryz.f24.body.isSome = true ∧ lexF Tryz.f24 = true := ⟨Tryz.func24, by kernel_rfl, by kernel_rfl, by kernel_rfl⟩
theorem fk26 (G : Gl) : (CC G).P.funcs[26]? = some Tryz.f26 ∧ (Tryz.f26.name == "runtime.NumGoroutine") = false ∧ Tryz.f26.body.isSome = true ∧ lexF Tryz.f26 = true := ⟨Tryz.func26, by kernel_rfl, by kernel_rfl, by kernel_rfl⟩
theorem fk31 (G : Gl) : (CC G).P.funcs[31]? = some Tryz.f31 ∧ (Tryz.f31.name == "runtime.NumGoroutine") = false ∧ Tryz.f31.body.isSome = true ∧ lexF Tryz.f31 = true := ⟨Tryz.func31, by kernel_rfl, by kernel_rfl, by kernel_rfl⟩
theorem fk37 (G : Gl) : (CC G).P.funcs[37]? = some Tryz.f37 ∧ (Tryz.f37.name == "runtime.NumGoroutine") = false ∧ Tryz.f37.body.isSome = true ∧ lexF Tryz.f37 = true := ⟨Tryz.func37, by kernel_rfl, by kernel_rfl, by kernel_rfl⟩
theorem fk39 (G : Gl) : (CC G).P.funcs[39]? = some Tryz.f39 ∧ (Tryz.f39.name == "runtime.NumGoroutine") = false ∧ Tryz.f39.body.isSome = true ∧ lexF Tryz.f39 = true := ⟨Tryz.func39, by kernel_rfl, by kernel_rfl, by kernel_rfl⟩
theorem fk40 (G : Gl) : (CC G).P.funcs[40]? = some Tryz.f40 ∧ (Tryz.f40.name == "runtime.NumGoroutine") = false ∧ Tryz.f40.body.isSome = true ∧ lexF Tryz.f40 = true := ⟨Tryz.func40, by kernel_rfl, by kernel_rfl, by kernel_rfl⟩
theorem fk42 (G : Gl) : (CC G).P.funcs[42]? = some Tryz.f42 ∧ (Tryz.f42.name == "runtime.NumGoroutine") = false ∧ Tryz.f42.body.isSome = true ∧ lexF Tryz.f42 = true := ⟨Tryz.func42, by kernel_rfl, by kernel_rfl, by kernel_rfl⟩
theorem fk45 (G : Gl) : (CC G).P.funcs[45]? = some Tryz.f45 ∧ (Tryz.f45.name == "runtime.NumGoroutine") = false ∧ Tryz.f45.body.isSome = true ∧ lexF Tryz.f45 = true := ⟨Tryz.func45, by kernel_rfl, by kernel_rfl, by kernel_rfl⟩
theorem fk47 (G : Gl) : (CC G).P.funcs[47]? = some Tryz.f47 ∧ (Tryz.f47.name == "runtime.NumGoroutine") = false ∧ Tryz.f47.body.isSome = true ∧ lexF Tryz.f47 = true := ⟨Tryz.func47, by kernel_rfl, by kernel_rfl, by kernel_rfl⟩
theorem fk48 (G : Gl) : (CC G).P.funcs[48]? = some Tryz.f48 ∧ (Tryz.f48.name == "runtime.NumGoroutine") = false ∧ Tryz.f48.body.isSome = true ∧ lexF Tryz.f48 = true := ⟨Tryz.func48, by kernel_rfl, by kernel_rfl, by kernel_rfl⟩
theorem fk52 (G : Gl) : (CC G).P.funcs[52]? = some Tryz.f52 ∧ (Tryz.f52.name == "runtime.NumGoroutine") = false ∧ Tryz.f52.body.isSome = true ∧ lexF Tryz.f52 = true := ⟨Tryz.func52, by kernel_rfl, by kernel_rfl, by kernel_rfl⟩
theorem fk56 (G : Gl) : (CC G).P.funcs[56]? = some Tryz.f56 ∧ (Tryz.f56.name == "runtime.NumGoroutine") = false ∧ Tryz.f56.body.isSome = true ∧ lexF Tryz.f56 = true := ⟨Tryz.func56, by kernel_rfl, by kernel_rfl, by kernel_rfl⟩
theorem fk57 (G : Gl) : (CC G).P.funcs[57]? = some Tryz.f57 ∧ (Tryz.f57.name == "runtime.NumGoroutine") = false ∧ Tryz.f57.body.isSome = true ∧ lexF Tryz.f57 = true := ⟨Tryz.func57, by kernel_rfl, by kernel_rfl, by kernel_rfl⟩
theorem fk62 (G : Gl) : (CC G).P.funcs[62]? = some Tryz.f62 ∧ (Tryz.f62.name == "runtime.NumGoroutine") = false ∧ Tryz.f62.body.isSome = true ∧ lexF Tryz.f62 = true := ⟨Tryz.func62, by kernel_rfl, by kernel_rfl, by kernel_rfl⟩
theorem fk68 (G : Gl) : (CC G).P.funcs[68]? = some Tryz.f68 ∧ (Tryz.f68.name == "runtime.NumGoroutine") = false ∧ Tryz.f68.body.isSome = true ∧ lexF Tryz.f68 = true := ⟨Tryz.func68, by kernel_rfl, by kernel_rfl, by kernel_rfl⟩
theorem fk73 (G : Gl) : (CC G).P.funcs[73]? = some Tryz.f73 ∧ (Tryz.f73.name == "runtime.NumGoroutine") = false ∧ Tryz.f73.body.isSome = true ∧ lexF Tryz.f73 = true := ⟨Tryz.func73, by kernel_rfl, by kernel_rfl, by kernel_rfl⟩
theorem fk75 (G : Gl) : (CC G).P.funcs[75]? = some Tryz.f75 ∧ (Tryz.f75.name == "runtime.NumGoroutine") = false ∧ Tryz.f75.body.isSome = true ∧ lexF Tryz.f75 = true := ⟨Tryz.func75, by kernel_rfl, by kernel_rfl, by kernel_rfl⟩
theorem fk79 (G : Gl) : (CC G).P.funcs[79]? = some Tryz.f79 ∧ (Tryz.f79.name == "runtime.NumGoroutine") = false ∧ Tryz.f79.body.isSome = true ∧ lexF Tryz.f79 = true := ⟨Tryz.func79, by kernel_rfl, by kernel_rfl, by kernel_rfl⟩
theorem fk81 (G : Gl) : (CC G).P.funcs[81]? = some Tryz.f81 ∧ (Tryz.f81.name == "runtime.NumGoroutine") = false ∧ Tryz.f81.body.isSome = true ∧ lexF Tryz.f81 = true := ⟨Tryz.func81, by kernel_rfl, by kernel_rfl, by kernel_rfl⟩
theorem fk86 (G : Gl) : (CC G).P.funcs[86]? = some Tryz.f86 ∧ (Tryz.f86.name == "runtime.NumGoroutine") = false ∧ Tryz.f86.body.isSome = true ∧ lexF Tryz.f86 = true := ⟨Tryz.func86, by kernel_rfl, by kernel_rfl, by kernel_rfl⟩
theorem fk87 (G : Gl) : (CC G).P.funcs[87]? = some Tryz.f87 ∧ (Tryz.f87.name == "runtime.NumGoroutine") = false ∧ Tryz.f87.body.isSome = true ∧ lexF Tryz.f87 = true := ⟨Tryz.func87, by kernel_rfl, by kernel_rfl, by kernel_rfl⟩
theorem fk91 (G : Gl) : (CC G).P.funcs[91]? = some Tryz.f91 ∧ (Tryz.f91.name == "runtime.NumGoroutine") = false ∧ Tryz.f91.body.isSome = true ∧ lexF Tryz.f91 = true := ⟨Tryz.func91, by kernel_rfl, by kernel_rfl, by kernel_rfl⟩
theorem fk94 (G : Gl) : (CC G).P.funcs[94]? = some Tryz.f94 ∧ (Tryz.f94.name == "runtime.NumGoroutine") = false ∧ Tryz.f94.body.isSome = true ∧ lexF Tryz.f94 = true := ⟨Tryz.func94, by kernel_rfl, by kernel_rfl, by kernel_rfl⟩
theorem fk96 (G : Gl) : (CC G).P.funcs[96]? = some Tryz.f96 ∧ (Tryz.f96.name == "runtime.NumGoroutine") = false ∧ Tryz.f96.body.isSome = true ∧ lexF Tryz.f96 = true := ⟨Tryz.func96, by kernel_rfl, by kernel_rfl, by kernel_rfl⟩
theorem fk104 (G : Gl) : (CC G).P.funcs[104]? = some Tryz.f104 ∧ (Tryz.f104.name == "runtime.NumGoroutine") = false ∧ Tryz.f104.body.isSome = true ∧ lexF Tryz.f104 = true := ⟨Tryz.func104, by kernel_rfl, by kernel_rfl, by kernel_rfl⟩
theorem fk107 (G : Gl) : (CC G).P.funcs[107]? = some Tryz.f107 ∧ (Tryz.f107.name == "runtime.NumGoroutine") = false ∧ Tryz.f107.body.isSome = true ∧ lexF Tryz.f107 = true := ⟨Tryz.func107, by kernel_rfl, by kernel_rfl, by kernel_rfl⟩
theorem fk110 (G : Gl) : (CC G).P.funcs[110]? = some Tryz.f110 ∧ (Tryz.f110.name == "runtime.NumGoroutine") = false ∧ Tryz.f110.body.isSome = true ∧ lexF Tryz.f110 = true := ⟨Tryz.func110, by kernel_rfl, by kernel_rfl, by kernel_rfl⟩
theorem fk111 (G : Gl) : (CC G).P.funcs[111]? = some Tryz.f111 ∧ (Tryz.f111.name == "runtime.NumGoroutine") = false ∧ Tryz.f111.body.isSome = true ∧ lexF Tryz.f111 = true := ⟨Tryz.func111, by kernel_rfl, by kernel_rfl, by kernel_rfl⟩
theorem fk114 (G : Gl) : (CC G).P.funcs[114]? = some Tryz.f114 ∧ (Tryz.f114.name == "runtime.NumGoroutine") = false ∧ Tryz.f114.body.isSome = true ∧ lexF Tryz.f114 = true := ⟨Tryz.func114, by kernel_rfl, by kernel_rfl, by kernel_rfl⟩
theorem fk119 (G : Gl) : (CC G).P.funcs[119]? = some Tryz.f119 ∧ (Tryz.f119.name == "runtime.NumGoroutine") = false ∧ Tryz.f119.body.isSome = true ∧ lexF Tryz.f119 = true := ⟨Tryz.func119, by kernel_rfl, by kernel_rfl, by kernel_rfl⟩
theorem fk124 (G : Gl) : (CC G).P.funcs[124]? = some Tryz.f124 ∧ (Tryz.f124.name == "runtime.NumGoroutine") = false ∧ Tryz.f124.body.isSome = true ∧ lexF Tryz.f124 = true := ⟨Tryz.func124, by kernel_rfl, by kernel_rfl, by kernel_rfl⟩
theorem fk137 (G : Gl) : (CC G).P.funcs[137]? = some Tryz.f137 ∧ (Tryz.f137.name == "runtime.NumGoroutine") = false ∧ Tryz.f137.body.isSome = true ∧ lexF Tryz.f137 = true := ⟨Tryz.func137, by kernel_rfl, by kernel_rfl, by kernel_rfl⟩
theorem fk143 (G : Gl) : (CC G).P.funcs[143]? = some Tryz.f143 ∧ (Tryz.f143.name == "runtime.NumGoroutine") = false ∧ Tryz.f143.body.isSome = true ∧ lexF Tryz.f143 = true := ⟨Tryz.func143, by kernel_rfl, by kernel_rfl, by kernel_rfl⟩
theorem fk145 (G : Gl) : (CC G).P.funcs[145]? = some Tryz.f145 ∧ (Tryz.f145.name == "runtime.NumGoroutine") = false ∧ Tryz.f145.body.isSome = true ∧ lexF Tryz.f145 = true := ⟨Tryz.func145, by kernel_rfl, by kernel_rfl, by kernel_rfl⟩
theorem fk147 (G : Gl) : (CC G).P.funcs[147]? = some Tryz.f147 ∧ (Tryz.f147.name == "runtime.NumGoroutine") = false ∧ Tryz.f147.body.isSome = true ∧ lexF Tryz.f147 = true := ⟨Tryz.func147, by kernel_rfl, by kernel_rfl, by kernel_rfl⟩
theorem fk161 (G : Gl) : (CC G).P.funcs[161]? = some Tryz.f161 ∧ (Tryz.f161.name == "runtime.NumGoroutine") = false ∧ Tryz.f161.body.isSome = true ∧ lexF Tryz.f161 = true := ⟨Tryz.func161, by kernel_rfl, by kernel_rfl, by kernel_rfl⟩
theorem fk162 (G : Gl) : (CC G).P.funcs[162]? = some Tryz.f162 ∧ (Tryz.f162.name == "runtime.NumGoroutine") = false ∧ Tryz.f162.body.isSome = true ∧ lexF Tryz.f162 = true := ⟨Tryz.func162, by kernel_rfl, by kernel_rfl, by kernel_rfl⟩
theorem fk169 (G : Gl) : (CC G).P.funcs[169]? = some Tryz.f169 ∧ (Tryz.f169.name == "runtime.NumGoroutine") = false ∧ Tryz.f169.body.isSome = true ∧ lexF Tryz.f169 = true := ⟨Tryz.func169, by kernel_rfl, by kernel_rfl, by kernel_rfl⟩
theorem fk172 (G : Gl) : (CC G).P.funcs[172]? = some Tryz.f172 ∧ (Tryz.f172.name == "runtime.NumGoroutine") = false ∧ Tryz.f172.body.isSome = true ∧ lexF Tryz.f172 = true := ⟨Tryz.func172, by kernel_rfl, by kernel_rfl, by kernel_rfl⟩
theorem fk177 (G : Gl) : (CC G).P.funcs[177]? = some Tryz.f177 ∧ (Tryz.f177.name == "runtime.NumGoroutine") = false ∧ Tryz.f177.body.isSome = true ∧ lexF Tryz.f177 = true := ⟨Tryz.func177, by kernel_rfl, by kernel_rfl, by kernel_rfl⟩
theorem fk180 (G : Gl) : (CC G).P.funcs[180]? = some Tryz.f180 ∧ (Tryz.f180.name == "runtime.NumGoroutine") = false ∧ Tryz.f180.body.isSome = true ∧ lexF Tryz.f180 = true := ⟨Tryz.func180, by kernel_rfl, by kernel_rfl, by kernel_rfl⟩
theorem fk198 (G : Gl) : (CC G).P.funcs[198]? = some Tryz.f198 ∧ (Tryz.f198.name == "runtime.NumGoroutine") = false ∧ Tryz.f198.body.isSome = true ∧ lexF Tryz.f198 = true := ⟨Tryz.func198, by kernel_rfl, by kernel_rfl, by kernel_rfl⟩
theorem fk201 (G : Gl) : (CC G).P.funcs[201]? = some Tryz.f201 ∧ (Tryz.f201.name == "runtime.NumGoroutine") = false ∧ Tryz.f201.body.isSome = true ∧ lexF Tryz.f201 = true := ⟨Tryz.func201, by kernel_rfl, by kernel_rfl, by kernel_rfl⟩
theorem fk214 (G : Gl) : (CC G).P.funcs[214]? = some Tryz.f214 ∧ (Tryz.f214.name == "runtime.NumGoroutine") = false ∧ Tryz.f214.body.isSome = true ∧ lexF Tryz.f214 = true := ⟨Tryz.func214, by kernel_rfl, by kernel_rfl, by kernel_rfl⟩
theorem fk216 (G : Gl) : (CC G).P.funcs[216]? = some Tryz.f216 ∧ (Tryz.f216.name == "runtime.NumGoroutine") = false ∧ Tryz.f216.body.isSome = true ∧ lexF Tryz.f216 = true := ⟨Tryz.func216, by kernel_rfl, by kernel_rfl, by kernel_rfl⟩
theorem fk221 (G : Gl) : (CC G).P.funcs[221]? = some Tryz.f221 ∧ (Tryz.f221.name == "runtime.NumGoroutine") = false ∧ Tryz.f221.body.isSome = true ∧ lexF Tryz.f221 = true := ⟨Tryz.func221, by kernel_rfl, by kernel_rfl, by kernel_rfl⟩
theorem fk227 (G : Gl) : (CC G).P.funcs[227]? = some Tryz.f227 ∧ (Tryz.f227.name == "runtime.NumGoroutine") = false ∧ Tryz.f227.body.isSome = true ∧ lexF Tryz.f227 = true := ⟨Tryz.func227, by kernel_rfl, by kernel_rfl, by kernel_rfl⟩
end Pc
/-
  Of each function: its text's orders of drawing make no odds; it is the program's.
-/
set_option linter.unusedVariables false
set_option maxRecDepth 100000
open Go Go.Vg Go.Proofs
namespace Pc
theorem fk9 (G : Gl) : (CC G).P.funcs[9]? = some Tryz.f9 ∧ (Tryz.f9.name == "runtime.NumGoroutine") = false ∧ Tryz.f9.body.isSome = true ∧ lexF Tryz.f9 = true := ⟨Tryz.func9, by kernel_rfl, by kernel_rfl, by kernel_rfl⟩
theorem fk10 (G : Gl) : (CC G).P.funcs[10]? = some Tryz.f10 ∧ (Tryz.f10.name == "runtime.NumGoroutine") = false ∧ Tryz.f10.body.isSome = true ∧ lexF Tryz.f10 = true := ⟨Tryz.func10, by kernel_rfl, by kernel_rfl, by kernel_rfl⟩
theorem fk11 (G : Gl) : (CC G).P.funcs[11]? = some Tryz.f11 ∧ (Tryz.f11.name == "runtime.NumGoroutine") = false ∧ Tryz.f11.body.isSome = true ∧ lexF Tryz.f11 = true := ⟨Tryz.func11, by kernel_rfl, by kernel_rfl, by kernel_rfl⟩
theorem fk12 (G : Gl) : (CC G).P.funcs[12]? = some Tryz.f12 ∧ (Tryz.f12.name == "runtime.NumGoroutine") = false ∧ Tryz.f12.body.isSome = true ∧ lexF Tryz.f12 = true := ⟨Tryz.func12, by kernel_rfl, by kernel_rfl, by kernel_rfl⟩
theorem fk14 (G : Gl) : (CC G).P.funcs[14]? = some Tryz.f14 ∧ (Tryz.f14.name == "runtime.NumGoroutine") = false ∧ Tryz.f14.body.isSome = true ∧ lexF Tryz.f14 = true := ⟨Tryz.func14, by kernel_rfl, by kernel_rfl, by kernel_rfl⟩
theorem fk19 (G : Gl) : (CC G).P.funcs[19]? = some Tryz.f19 ∧ (Tryz.f19.name == "runtime.NumGoroutine") = false ∧ Tryz.f19.body.isSome = true ∧ lexF Tryz.f19 = true := ⟨Tryz.func19, by kernel_rfl, by kernel_rfl, by kernel_rfl⟩
theorem fk27 (G : Gl) : (CC G).P.funcs[27]? = some Tryz.f27 ∧ (Tryz.f27.name == "runtime.NumGoroutine") = false ∧ Tryz.f27.body.isSome = true ∧ lexF Tryz.f27 = true := ⟨Tryz.func27, by kernel_rfl, by kernel_rfl, by kernel_rfl⟩
theorem fk30 (G : Gl) : (CC G).P.funcs[30]? = some Tryz.f30 ∧ (Tryz.f30.name == "runtime.NumGoroutine") = false ∧ Tryz.f30.body.isSome = true ∧ lexF Tryz.f30 = true := ⟨Tryz.func30, by kernel_rfl, by kernel_rfl, by kernel_rfl⟩
theorem fk33 (G : Gl) : (CC G).P.funcs[33]? = some Tryz.f33 ∧ (Tryz.f33.name == "runtime.NumGoroutine") = false ∧ Tryz.f33.body.isSome = true ∧ lexF Tryz.f33 = true := ⟨Tryz.func33, by kernel_rfl, by kernel_rfl, by kernel_rfl⟩
theorem fk35 (G : Gl) : (CC G).P.funcs[35]? = some Tryz.f35 ∧ (Tryz.f35.name == "runtime.NumGoroutine") = false ∧ Tryz.f35.body.isSome = true ∧ lexF Tryz.f35 = true := ⟨Tryz.func35, by kernel_rfl, by kernel_rfl, by kernel_rfl⟩
theorem fk43 (G : Gl) : (CC G).P.funcs[43]? = some Tryz.f43 ∧ (Tryz.f43.name == "runtime.NumGoroutine") = false ∧ Tryz.f43.body.isSome = true ∧ lexF Tryz.f43 = true := ⟨Tryz.func43, by kernel_rfl, by kernel_rfl, by kernel_rfl⟩
theorem fk46 (G : Gl) : (CC G).P.funcs[46]? = some Tryz.f46 ∧ (Tryz.f46.name == "runtime.NumGoroutine") = false ∧ Tryz.f46.body.isSome = true ∧ lexF Tryz.f46 = true := ⟨Tryz.func46, by kernel_rfl, by kernel_rfl, by kernel_rfl⟩
theorem fk50 (G : Gl) : (CC G).P.funcs[50]? = some Tryz.f50 ∧ (Tryz.f50.name == "runtime.NumGoroutine") = false ∧ Tryz.f50.body.isSome = true ∧ lexF Tryz.f50 = true := ⟨Tryz.func50, by kernel_rfl, by kernel_rfl, by kernel_rfl⟩
theorem fk54 (G : Gl) : (CC G).P.funcs[54]? = some Tryz.f54 ∧ (Tryz.f54.name == "runtime.NumGoroutine") = false ∧ Tryz.f54.body.isSome = true ∧ lexF Tryz.f54 = true := ⟨Tryz.func54, by kernel_rfl, by kernel_rfl, by kernel_rfl⟩
theorem fk58 (G : Gl) : (CC G).P.funcs[58]? = some Tryz.f58 ∧ (Tryz.f58.name == "runtime.NumGoroutine") = false ∧ Tryz.f58.body.isSome = true ∧ lexF Tryz.f58 = true := ⟨Tryz.func58, by kernel_rfl, by kernel_rfl, by kernel_rfl⟩
theorem fk61 (G : Gl) : (CC G).P.funcs[61]? = some Tryz.f61 ∧ (Tryz.f61.name == "runtime.NumGoroutine") = false ∧ Tryz.f61.body.isSome = true ∧ lexF Tryz.f61 = true := ⟨Tryz.func61, by kernel_rfl, by kernel_rfl, by kernel_rfl⟩
theorem fk69 (G : Gl) : (CC G).P.funcs[69]? = some Tryz.f69 ∧ (Tryz.f69.name == "runtime.NumGoroutine") = false ∧ Tryz.f69.body.isSome = true ∧ lexF Tryz.f69 = true := ⟨Tryz.func69, by kernel_rfl, by kernel_rfl, by kernel_rfl⟩
theorem fk70 (G : Gl) : (CC G).P.funcs[70]? = some Tryz.f70 ∧ (Tryz.f70.name == "runtime.NumGoroutine") = false ∧ Tryz.f70.body.isSome = true ∧ lexF Tryz.f70 = true := ⟨Tryz.func70, by kernel_rfl, by kernel_rfl, by kernel_rfl⟩
theorem fk71 (G : Gl) : (CC G).P.funcs[71]? = some Tryz.f71 ∧ (Tryz.f71.name == "runtime.NumGoroutine") = false ∧ Tryz.f71.body.isSome = true ∧ lexF Tryz.f71 = true := ⟨Tryz.func71, by kernel_rfl, by kernel_rfl, by kernel_rfl⟩
theorem fk74 (G : Gl) : (CC G).P.funcs[74]? = some Tryz.f74 ∧ (Tryz.f74.name == "runtime.NumGoroutine") = false ∧ Tryz.f74.body.isSome = true ∧ lexF Tryz.f74 = true := ⟨Tryz.func74, by kernel_rfl, by kernel_rfl, by kernel_rfl⟩
theorem fk80 (G : Gl) : (CC G).P.funcs[80]? = some Tryz.f80 ∧ (Tryz.f80.name == "runtime.NumGoroutine") = false ∧ Tryz.f80.body.isSome = true ∧ lexF Tryz.f80 = true := ⟨Tryz.func80, by kernel_rfl, by kernel_rfl, by kernel_rfl⟩
theorem fk82 (G : Gl) : (CC G).P.funcs[82]? = some Tryz.f82 ∧ (Tryz.f82.name == "runtime.NumGoroutine") = false ∧ Tryz.f82.body.isSome = true ∧ lexF Tryz.f82 = true := ⟨Tryz.func82, by kernel_rfl, by kernel_rfl, by kernel_rfl⟩
theorem fk83 (G : Gl) : (CC G).P.funcs[83]? = some Tryz.f83 ∧ (Tryz.f83.name == "runtime.NumGoroutine") = false ∧ Tryz.f83.body.isSome = true ∧ lexF Tryz.f83 = true := ⟨Tryz.func83, by kernel_rfl, by kernel_rfl, by kernel_rfl⟩
theorem fk89 (G : Gl) : (CC G).P.funcs[89]? = some Tryz.f89 ∧ (Tryz.f89.name == "runtime.NumGoroutine") = false ∧ Tryz.f89.body.isSome = true ∧ lexF Tryz.f89 = true := ⟨Tryz.func89, by kernel_rfl, by kernel_rfl, by kernel_rfl⟩
theorem fk90 (G : Gl) : (CC G).P.funcs[90]? = some Tryz.f90 ∧ (Tryz.f90.name == "runtime.NumGoroutine") = false ∧ Tryz.f90.body.isSome = true ∧ lexF Tryz.f90 = true := ⟨Tryz.func90, by kernel_rfl, by kernel_rfl, by kernel_rfl⟩
theorem fk108 (G : Gl) : (CC G).P.funcs[108]? = some Tryz.f108 ∧ (Tryz.f108.name == "runtime.NumGoroutine") = false ∧ Tryz.f108.body.isSome = true ∧ lexF Tryz.f108 = true := ⟨Tryz.func108, by kernel_rfl, by kernel_rfl, by kernel_rfl⟩
theorem fk112 (G : Gl) : (CC G).P.funcs[112]? = some Tryz.f112 ∧ (Tryz.f112.name == "runtime.NumGoroutine") = false ∧ Tryz.f112.body.isSome = true ∧ lexF Tryz.f112 = true := ⟨Tryz.func112, by kernel_rfl, by kernel_rfl, by kernel_rfl⟩
theorem fk113 (G : Gl) : (CC G).P.funcs[113]? = some Tryz.f113 ∧ (Tryz.f113.name == "runtime.NumGoroutine") = false ∧ Tryz.f113.body.isSome = true ∧ lexF Tryz.f113 = true := ⟨Tryz.func113, by kernel_rfl, by kernel_rfl, by kernel_rfl⟩
theorem fk121 (G : Gl) : (CC G).P.funcs[121]? = some Tryz.f121 ∧ (Tryz.f121.name == "runtime.NumGoroutine") = false ∧ Tryz.f121.body.isSome = true ∧ lexF Tryz.f121 = true := ⟨Tryz.func121, by kernel_rfl, by kernel_rfl, by kernel_rfl⟩
theorem fk122 (G : Gl) : (CC G).P.funcs[122]? = some Tryz.f122 ∧ (Tryz.f122.name == "runtime.NumGoroutine") = false ∧ Tryz.f122.body.isSome = true ∧ lexF Tryz.f122 = true := ⟨Tryz.func122, by kernel_rfl, by kernel_rfl, by kernel_rfl⟩
theorem fk123 (G : Gl) : (CC G).P.funcs[123]? = some Tryz.f123 ∧ (Tryz.f123.name == "runtime.NumGoroutine") = false ∧ Tryz.f123.body.isSome = true ∧ lexF Tryz.f123 = true := ⟨Tryz.func123, by kernel_rfl, by kernel_rfl, by kernel_rfl⟩
theorem fk128 (G : Gl) : (CC G).P.funcs[128]? = some Tryz.f128 ∧ (Tryz.f128.name == "runtime.NumGoroutine") = false ∧ Tryz.f128.body.isSome = true ∧ lexF Tryz.f128 = true := ⟨Tryz.func128, by kernel_rfl, by kernel_rfl, by kernel_rfl⟩
theorem fk135 (G : Gl) : (CC G).P.funcs[135]? = some Tryz.f135 ∧ (Tryz.f135.name == "runtime.NumGoroutine") = false ∧ Tryz.f135.body.isSome = true ∧ lexF Tryz.f135 = true := ⟨Tryz.func135, by kernel_rfl, by kernel_rfl, by kernel_rfl⟩
theorem fk136 (G : Gl) : (CC G).P.funcs[136]? = some Tryz.f136 ∧ (Tryz.f136.name == "runtime.NumGoroutine") = false ∧ Tryz.f136.body.isSome = true ∧ lexF Tryz.f136 = true := ⟨Tryz.func136, by kernel_rfl, by kernel_rfl, by kernel_rfl⟩
theorem fk140 (G : Gl) : (CC G).P.funcs[140]? = some Tryz.f140 ∧ (Tryz.f140.name == "runtime.NumGoroutine") = false ∧ Tryz.f140.body.isSome = true ∧ lexF Tryz.f140 = true := ⟨Tryz.func140, by kernel_rfl, by kernel_rfl, by kernel_rfl⟩
theorem fk142 (G : Gl) : (CC G).P.funcs[142]? = some Tryz.f142 ∧ (Tryz.f142.name == "runtime.NumGoroutine") = false ∧ Tryz.f142.body.isSome = true ∧ lexF Tryz.f142 = true := ⟨Tryz.func142, by kernel_rfl, by kernel_rfl, by kernel_rfl⟩
theorem fk144 (G : Gl) : (CC G).P.funcs[144]? = some Tryz.f144 ∧ (Tryz.f144.name == "runtime.NumGoroutine") = false ∧ Tryz.f144.body.isSome = true ∧ lexF Tryz.f144 = true := ⟨Tryz.func144, by kernel_rfl, by kernel_rfl, by kernel_rfl⟩
theorem fk146 (G : Gl) : (CC G).P.funcs[146]? = some Tryz.f146 ∧ (Tryz.f146.name == "runtime.NumGoroutine") = false ∧ Tryz.f146.body.isSome = true ∧ lexF Tryz.f146 = true := ⟨Tryz.func146, by kernel_rfl, by kernel_rfl, by kernel_rfl⟩
theorem fk150 (G : Gl) : (CC G).P.funcs[150]? = some Tryz.f150 ∧ (Tryz.f150.name == "runtime.NumGoroutine") = false ∧ Tryz.f150.body.isSome = true ∧ lexF Tryz.f150 = true := ⟨Tryz.func150, by kernel_rfl, by kernel_rfl, by kernel_rfl⟩
theorem fk157 (G : Gl) : (CC G).P.funcs[157]? = some Tryz.f157 ∧ (Tryz.f157.name == "runtime.NumGoroutine") = false ∧ Tryz.f157.body.isSome = true ∧ lexF Tryz.f157 = true := ⟨Tryz.func157, by kernel_rfl, by kernel_rfl, by kernel_rfl⟩
theorem fk158 (G : Gl) : (CC G).P.funcs[158]? = some Tryz.f158 ∧ (Tryz.f158.name == "runtime.NumGoroutine") = false ∧ Tryz.f158.body.isSome = true ∧ lexF Tryz.f158 = true := ⟨Tryz.func158, by kernel_rfl, by kernel_rfl, by kernel_rfl⟩
theorem fk159 (G : Gl) : (CC G).P.funcs[159]? = some Tryz.f159 ∧ (Tryz.f159.name == "runtime.NumGoroutine") = false ∧ Tryz.f159.body.isSome = true ∧ lexF Tryz.f159 = true := ⟨Tryz.func159, by kernel_rfl, by kernel_rfl, by kernel_rfl⟩
theorem fk175 (G : Gl) : (CC G).P.funcs[175]? = some Tryz.f175 ∧ (Tryz.f175.name == "runtime.NumGoroutine") = false ∧ Tryz.f175.body.isSome = true ∧ lexF Tryz.f175 = true := ⟨Tryz.func175, by kernel_rfl, by kernel_rfl, by kernel_rfl⟩
theorem fk176 (G : Gl) : (CC G).P.funcs[176]? = some Tryz.f176 ∧ (Tryz.f176.name == "runtime.NumGoroutine") = false ∧ Tryz.f176.body.isSome = true ∧ lexF Tryz.f176 = true := ⟨Tryz.func176, by kernel_rfl, by kernel_rfl, by kernel_rfl⟩
theorem fk178 (G : Gl) : (CC G).P.funcs[178]? = some Tryz.f178 ∧ (Tryz.f178.name == "runtime.NumGoroutine") = false ∧ Tryz.f178.body.isSome = true ∧ lexF Tryz.f178 = true := ⟨Tryz.func178, by kernel_rfl, by kernel_rfl, by kernel_rfl⟩
theorem fk179 (G : Gl) : (CC G).P.funcs[179]? = some Tryz.f179 ∧ (Tryz.f179.name == "runtime.NumGoroutine") = false ∧ Tryz.f179.body.isSome = true ∧ lexF Tryz.f179 = true := ⟨Tryz.func179, by kernel_rfl, by kernel_rfl, by kernel_rfl⟩
theorem fk200 (G : Gl) : (CC G).P.funcs[200]? = some Tryz.f200 ∧ (Tryz.f200.name == "runtime.NumGoroutine") = false ∧ Tryz.f200.body.isSome = true ∧ lexF Tryz.f200 = true := ⟨Tryz.func200, by kernel_rfl, by kernel_rfl, by kernel_rfl⟩
theorem fk213 (G : Gl) : (CC G).P.funcs[213]? = some Tryz.f213 ∧ (Tryz.f213.name == "runtime.NumGoroutine") = false ∧ Tryz.f213.body.isSome = true ∧ lexF Tryz.f213 = true := ⟨Tryz.func213, by kernel_rfl, by kernel_rfl, by kernel_rfl⟩
theorem fk215 (G : Gl) : (CC G).P.funcs[215]? = some Tryz.f215 ∧ (Tryz.f215.name == "runtime.NumGoroutine") = false ∧ Tryz.f215.body.isSome = true ∧ lexF Tryz.f215 = true := ⟨Tryz.func215, by kernel_rfl, by kernel_rfl, by kernel_rfl⟩
theorem fk218 (G : Gl) : (CC G).P.funcs[218]? = some Tryz.f218 ∧ (Tryz.f218.name == "runtime.NumGoroutine") = false ∧ Tryz.f218.body.isSome = true ∧ lexF Tryz.f218 = true := ⟨Tryz.func218, by kernel_rfl, by kernel_rfl, by kernel_rfl⟩
theorem fk224 (G : Gl) : (CC G).P.funcs[224]? = some Tryz.f224 ∧ (Tryz.f224.name == "runtime.NumGoroutine") = false ∧ Tryz.f224.body.isSome = true ∧ lexF Tryz.f224 = true := ⟨Tryz.func224, by kernel_rfl, by kernel_rfl, by kernel_rfl⟩
theorem fk229 (G : Gl) : (CC G).P.funcs[229]? = some Tryz.f229 ∧ (Tryz.f229.name == "runtime.NumGoroutine") = false ∧ Tryz.f229.body.isSome = true ∧ lexF Tryz.f229 = true := ⟨Tryz.func229, by kernel_rfl, by kernel_rfl, by kernel_rfl⟩
theorem fk230 (G : Gl) : (CC G).P.funcs[230]? = some Tryz.f230 ∧ (Tryz.f230.name == "runtime.NumGoroutine") = false ∧ Tryz.f230.body.isSome = true ∧ lexF Tryz.f230 = true := ⟨Tryz.func230, by kernel_rfl, by kernel_rfl, by kernel_rfl⟩
end Pc
/-
  The program's functions by their numbers.
-/
set_option linter.unusedVariables false
set_option maxRecDepth 100000
open Go Go.Vg Go.Proofs
namespace Pc
noncomputable def fnOf0 : Nat → Option Func
  | 3 => some Tryz.f3
  | 4 => some Tryz.f4
  | 5 => some Tryz.f5
  | 6 => some Tryz.f6
  | 7 => some Tryz.f7
  | 8 => some Tryz.f8
  | 9 => some Tryz.f9
  | 10 => some Tryz.f10
  | 11 => some Tryz.f11
  | 12 => some Tryz.f12
  | 13 => some Tryz.f13
  | 14 => some Tryz.f14
  | 15 => some Tryz.f15
  | 16 => some Tryz.f16
  | 17 => some Tryz.f17
  | 18 => some Tryz.f18
  | 19 => some Tryz.f19
  | 20 => some Tryz.f20
  | 21 => some Tryz.f21
  | 22 => some Tryz.f22
  | _ => none
theorem fnOk0 (G : Gl) (n : Nat) (fn : Func) (h : fnOf0 n = some fn) : (CC G).P.funcs[n]? = some fn ∧ (fn.name == "runtime.NumGoroutine") = false ∧ fn.body.isSome = true ∧ lexF fn = true := by
  unfold fnOf0 at h
  split at h
  · cases h; exact fk3 G
  · cases h; exact fk4 G
  · cases h; exact fk5 G
  · cases h; exact fk6 G
  · cases h; exact fk7 G
  · cases h; exact fk8 G
  · cases h; exact fk9 G
  · cases h; exact fk10 G
  · cases h; exact fk11 G
  · cases h; exact fk12 G
  · cases h; exact fk13 G
  · cases h; exact fk14 G
  · cases h; exact fk15 G
  · cases h; exact fk16 G
  · cases h; exact fk17 G
  · cases h; exact fk18 G
  · cases h; exact fk19 G
  · cases h; exact fk20 G
  · cases h; exact fk21 G
  · cases h; exact fk22 G
  · cases h
noncomputable def fnOf1 : Nat → Option Func
  | 23 => some Tryz.f23
  | 24 => some Tryz.f24
  | 25 => some Tryz.f25
  | 26 => some Tryz.f26
  | 27 => some Tryz.f27
  | 28 => some Tryz.f28
  | 29 => some Tryz.f29
  | 30 => some Tryz.f30
  | 31 => some Tryz.f31
  | 32 => some Tryz.f32
  | 33 => some Tryz.f33
  | 34 => some Tryz.f34
  | 35 => some Tryz.f35
  | 36 => some Tryz.f36
  | 37 => some Tryz.f37
  | 38 => some Tryz.f38
  | 39 => some Tryz.f39
  | 40 => some Tryz.f40
  | 41 => some Tryz.f41
  | 42 => some Tryz.f42
  | _ => none
theorem fnOk1 (G : Gl) (n : Nat) (fn : Func) (h : fnOf1 n = some fn) : (CC G).P.funcs[n]? = some fn ∧ (fn.name == "runtime.NumGoroutine") = false ∧ fn.body.isSome = true ∧ lexF fn = true := by
  unfold fnOf1 at h
  split at h
  · cases h; exact fk23 G
  · cases h; exact fk24 G
  · cases h; exact fk25 G
  · cases h; exact fk26 G
  · cases h; exact fk27 G
  · cases h; exact fk28 G
  · cases h; exact fk29 G
  · cases h; exact fk30 G
  · cases h; exact fk31 G
  · cases h; exact fk32 G
  · cases h; exact fk33 G
  · cases h; exact fk34 G
  · cases h; exact fk35 G
  · cases h; exact fk36 G
  · cases h; exact fk37 G
  · cases h; exact fk38 G
  · cases h; exact fk39 G
  · cases h; exact fk40 G
  · cases h; exact fk41 G
  · cases h; exact fk42 G
  · cases h
noncomputable def fnOf2 : Nat → Option Func
  | 43 => some Tryz.f43
  | 44 => some Tryz.f44
  | 45 => some Tryz.f45
  | 46 => some Tryz.f46
  | 47 => some Tryz.f47
  | 48 => some Tryz.f48
  | 49 => some Tryz.f49
  | 50 => some Tryz.f50
  | 51 => some Tryz.f51
  | 52 => some Tryz.f52
  | 53 => some Tryz.f53
  | 54 => some Tryz.f54
  | 55 => some Tryz.f55
  | 56 => some Tryz.f56
  | 57 => some Tryz.f57
  | 58 => some Tryz.f58
  | 59 => some Tryz.f59
  | 60 => some Tryz.f60
  | 61 => some Tryz.f61
  | 62 => some Tryz.f62
  | _ => none
theorem fnOk2 (G : Gl) (n : Nat) (fn : Func) (h : fnOf2 n = some fn) : (CC G).P.funcs[n]? = some fn ∧ (fn.name == "runtime.NumGoroutine") = false ∧ fn.body.isSome = true ∧ lexF fn = true := by
  unfold fnOf2 at h
  split at h
  · cases h; exact fk43 G
  · cases h; exact fk44 G
  · cases h; exact fk45 G
  · cases h; exact fk46 G
  · cases h; exact fk47 G
  · cases h; exact fk48 G
  · cases h; exact fk49 G
  · cases h; exact fk50 G
  · cases h; exact fk51 G
  · cases h; exact fk52 G
  · cases h; exact fk53 G
  · cases h; exact fk54 G
  · cases h; exact fk55 G
  · cases h; exact fk56 G
  · cases h; exact fk57 G
  · cases h; exact fk58 G
  · cases h; exact fk59 G
  · cases h; exact fk60 G
  · cases h; exact fk61 G
  · cases h; exact fk62 G
  · cases h
noncomputable def fnOf3 : Nat → Option Func
  | 63 => some Tryz.f63
  | 64 => some Tryz.f64
  | 65 => some Tryz.f65
  | 66 => some Tryz.f66
  | 67 => some Tryz.f67
  | 68 => some Tryz.f68
  | 69 => some Tryz.f69
  | 70 => some Tryz.f70
  | 71 => some Tryz.f71
  | 72 => some Tryz.f72
  | 73 => some Tryz.f73
  | 74 => some Tryz.f74
  | 75 => some Tryz.f75
  | 76 => some Tryz.f76
  | 77 => some Tryz.f77
  | 78 => some Tryz.f78
  | 79 => some Tryz.f79
  | 80 => some Tryz.f80
  | 81 => some Tryz.f81
  | 82 => some Tryz.f82
  | _ => none
theorem fnOk3 (G : Gl) (n : Nat) (fn : Func) (h : fnOf3 n = some fn) : (CC G).P.funcs[n]? = some fn ∧ (fn.name == "runtime.NumGoroutine") = false ∧ fn.body.isSome = true ∧ lexF fn = true := by
  unfold fnOf3 at h
  split at h
  · cases h; exact fk63 G
  · cases h; exact fk64 G
  · cases h; exact fk65 G
  · cases h; exact fk66 G
  · cases h; exact fk67 G
  · cases h; exact fk68 G
  · cases h; exact fk69 G
  · cases h; exact fk70 G
  · cases h; exact fk71 G
  · cases h; exact fk72 G
  · cases h; exact fk73 G
  · cases h; exact fk74 G
  · cases h; exact fk75 G
  · cases h; exact fk76 G
  · cases h; exact fk77 G
  · cases h; exact fk78 G
  · cases h; exact fk79 G
  · cases h; exact fk80 G
  · cases h; exact fk81 G
  · cases h; exact fk82 G
  · cases h
noncomputable def fnOf4 : Nat → Option Func
  | 83 => some Tryz.f83
  | 84 => some Tryz.f84
  | 85 => some Tryz.f85
  | 86 => some Tryz.f86
  | 87 => some Tryz.f87
  | 88 => some Tryz.f88
  | 89 => some Tryz.f89
  | 90 => some Tryz.f90
  | 91 => some Tryz.f91
  | 92 => some Tryz.f92
  | 93 => some Tryz.f93
  | 94 => some Tryz.f94
  | 95 => some Tryz.f95
  | 96 => some Tryz.f96
  | 97 => some Tryz.f97
  | 98 => some Tryz.f98
  | 99 => some Tryz.f99
  | 100 => some Tryz.f100
  | 101 => some Tryz.f101
  | 102 => some Tryz.f102
  | _ => none
theorem fnOk4 (G : Gl) (n : Nat) (fn : Func) (h : fnOf4 n = some fn) : (CC G).P.funcs[n]? = some fn ∧ (fn.name == "runtime.NumGoroutine") = false ∧ fn.body.isSome = true ∧ lexF fn = true := by
  unfold fnOf4 at h
  split at h
  · cases h; exact fk83 G
  · cases h; exact fk84 G
  · cases h; exact fk85 G
  · cases h; exact fk86 G
  · cases h; exact fk87 G
  · cases h; exact fk88 G
  · cases h; exact fk89 G
  · cases h; exact fk90 G
  · cases h; exact fk91 G
  · cases h; exact fk92 G
  · cases h; exact fk93 G
  · cases h; exact fk94 G
  · cases h; exact fk95 G
  · cases h; exact fk96 G
  · cases h; exact fk97 G
  · cases h; exact fk98 G
  · cases h; exact fk99 G
  · cases h; exact fk100 G
  · cases h; exact fk101 G
  · cases h; exact fk102 G
  · cases h
noncomputable def fnOf5 : Nat → Option Func
  | 103 => some Tryz.f103
  | 104 => some Tryz.f104
  | 105 => some Tryz.f105
  | 106 => some Tryz.f106
  | 107 => some Tryz.f107
  | 108 => some Tryz.f108
  | 109 => some Tryz.f109
  | 110 => some Tryz.f110
  | 111 => some Tryz.f111
  | 112 => some Tryz.f112
  | 113 => some Tryz.f113
  | 114 => some Tryz.f114
  | 115 => some Tryz.f115
  | 116 => some Tryz.f116
  | 117 => some Tryz.f117
  | 118 => some Tryz.f118
  | 119 => some Tryz.f119
  | 120 => some Tryz.f120
  | 121 => some Tryz.f121
  | 122 => some Tryz.f122
  | _ => none
theorem fnOk5 (G : Gl) (n : Nat) (fn : Func) (h : fnOf5 n = some fn) : (CC G).P.funcs[n]? = some fn ∧ (fn.name == "runtime.NumGoroutine") = false ∧ fn.body.isSome = true ∧ lexF fn = true := by
  unfold fnOf5 at h
  split at h
  · cases h; exact fk103 G
  · cases h; exact fk104 G
  · cases h; exact fk105 G
  · cases h; exact fk106 G
  · cases h; exact fk107 G
  · cases h; exact fk108 G
  · cases h; exact fk109 G
  · cases h; exact fk110 G
  · cases h; exact fk111 G
  · cases h; exact fk112 G
  · cases h; exact fk113 G
  · cases h; exact fk114 G
  · cases h; exact fk115 G
  · cases h; exact fk116 G
  · cases h; exact fk117 G
  · cases h; exact fk118 G
  · cases h; exact fk119 G
  · cases h; exact fk120 G
  · cases h; exact fk121 G
  · cases h; exact fk122 G
  · cases h
noncomputable def fnOf6 : Nat → Option Func
  | 123 => some Tryz.f123
  | 124 => some Tryz.f124
  | 125 => some Tryz.f125
  | 126 => some Tryz.f126
  | 127 => some Tryz.f127
  | 128 => some Tryz.f128
  | 129 => some Tryz.f129
  | 130 => some Tryz.f130
  | 131 => some Tryz.f131
  | 132 => some Tryz.f132
  | 133 => some Tryz.f133
  | 134 => some Tryz.f134
  | 135 => some Tryz.f135
  | 136 => some Tryz.f136
  | 137 => some Tryz.f137
  | 138 => some Tryz.f138
  | 139 => some Tryz.f139
  | 140 => some Tryz.f140
  | 141 => some Tryz.f141
  | 142 => some Tryz.f142
  | _ => none
theorem fnOk6 (G : Gl) (n : Nat) (fn : Func) (h : fnOf6 n = some fn) : (CC G).P.funcs[n]? = some fn ∧ (fn.name == "runtime.NumGoroutine") = false ∧ fn.body.isSome = true ∧ lexF fn = true := by
  unfold fnOf6 at h
  split at h
  · cases h; exact fk123 G
  · cases h; exact fk124 G
  · cases h; exact fk125 G
  · cases h; exact fk126 G
  · cases h; exact fk127 G
  · cases h; exact fk128 G
  · cases h; exact fk129 G
  · cases h; exact fk130 G
  · cases h; exact fk131 G
  · cases h; exact fk132 G
  · cases h; exact fk133 G
  · cases h; exact fk134 G
  · cases h; exact fk135 G
  · cases h; exact fk136 G
  · cases h; exact fk137 G
  · cases h; exact fk138 G
  · cases h; exact fk139 G
  · cases h; exact fk140 G
  · cases h; exact fk141 G
  · cases h; exact fk142 G
  · cases h
noncomputable def fnOf7 : Nat → Option Func
  | 143 => some Tryz.f143
  | 144 => some Tryz.f144
  | 145 => some Tryz.f145
  | 146 => some Tryz.f146
  | 147 => some Tryz.f147
  | 148 => some Tryz.f148
  | 149 => some Tryz.f149
  | 150 => some Tryz.f150
  | 151 => some Tryz.f151
  | 152 => some Tryz.f152
  | 153 => some Tryz.f153
  | 154 => some Tryz.f154
  | 155 => some Tryz.f155
  | 156 => some Tryz.f156
  | 157 => some Tryz.f157
  | 158 => some Tryz.f158
  | 159 => some Tryz.f159
  | 160 => some Tryz.f160
  | 161 => some Tryz.f161
  | 162 => some Tryz.f162
  | _ => none
theorem fnOk7 (G : Gl) (n : Nat) (fn : Func) (h : fnOf7 n = some fn) : (CC G).P.funcs[n]? = some fn ∧ (fn.name == "runtime.NumGoroutine") = false ∧ fn.body.isSome = true ∧ lexF fn = true := by
  unfold fnOf7 at h
  split at h
  · cases h; exact fk143 G
  · cases h; exact fk144 G
  · cases h; exact fk145 G
  · cases h; exact fk146 G
  · cases h; exact fk147 G
  · cases h; exact fk148 G
  · cases h; exact fk149 G
  · cases h; exact fk150 G
  · cases h; exact fk151 G
  · cases h; exact fk152 G
  · cases h; exact fk153 G
  · cases h; exact fk154 G
  · cases h; exact fk155 G
  · cases h; exact fk156 G
  · cases h; exact fk157 G
  · cases h; exact fk158 G
  · cases h; exact fk159 G
  · cases h; exact fk160 G
  · cases h; exact fk161 G
  · cases h; exact fk162 G
  · cases h
noncomputable def fnOf8 : Nat → Option Func
  | 163 => some Tryz.f163
  | 164 => some Tryz.f164
  | 165 => some Tryz.f165
  | 166 => some Tryz.f166
  | 167 => some Tryz.f167
  | 168 => some Tryz.f168
  | 169 => some Tryz.f169
  | 170 => some Tryz.f170
  | 171 => some Tryz.f171
  | 172 => some Tryz.f172
  | 173 => some Tryz.f173
  | 174 => some Tryz.f174
  | 175 => some Tryz.f175
  | 176 => some Tryz.f176
  | 177 => some Tryz.f177
  | 178 => some Tryz.f178
  | 179 => some Tryz.f179
  | 180 => some Tryz.f180
  | 181 => some Tryz.f181
  | 198 => some Tryz.f198
  | _ => none
theorem fnOk8 (G : Gl) (n : Nat) (fn : Func) (h : fnOf8 n = some fn) : (CC G).P.funcs[n]? = some fn ∧ (fn.name == "runtime.NumGoroutine") = false ∧ fn.body.isSome = true ∧ lexF fn = true := by
  unfold fnOf8 at h
  split at h
  · cases h; exact fk163 G
  · cases h; exact fk164 G
  · cases h; exact fk165 G
  · cases h; exact fk166 G
  · cases h; exact fk167 G
  · cases h; exact fk168 G
  · cases h; exact fk169 G
  · cases h; exact fk170 G
  · cases h; exact fk171 G
  · cases h; exact fk172 G
  · cases h; exact fk173 G
  · cases h; exact fk174 G
  · cases h; exact fk175 G
  · cases h; exact fk176 G
  · cases h; exact fk177 G
  · cases h; exact fk178 G
  · cases h; exact fk179 G
  · cases h; exact fk180 G
  · cases h; exact fk181 G
  · cases h; exact fk198 G
  · cases h
noncomputable def fnOf9 : Nat → Option Func
  | 199 => some Tryz.f199
  | 200 => some Tryz.f200
  | 201 => some Tryz.f201
  | 202 => some Tryz.f202
  | 203 => some Tryz.f203
  | 205 => some Tryz.f205
  | 206 => some Tryz.f206
  | 207 => some Tryz.f207
  | 208 => some Tryz.f208
  | 209 => some Tryz.f209
  | 210 => some Tryz.f210
  | 211 => some Tryz.f211
  | 212 => some Tryz.f212
  | 213 => some Tryz.f213
  | 214 => some Tryz.f214
  | 215 => some Tryz.f215
  | 216 => some Tryz.f216
  | 217 => some Tryz.f217
  | 218 => some Tryz.f218
  | 219 => some Tryz.f219
  | _ => none
theorem fnOk9 (G : Gl) (n : Nat) (fn : Func) (h : fnOf9 n = some fn) : (CC G).P.funcs[n]? = some fn ∧ (fn.name == "runtime.NumGoroutine") = false ∧ fn.body.isSome = true ∧ lexF fn = true := by
  unfold fnOf9 at h
  split at h
  · cases h; exact fk199 G
  · cases h; exact fk200 G
  · cases h; exact fk201 G
  · cases h; exact fk202 G
  · cases h; exact fk203 G
  · cases h; exact fk205 G
  · cases h; exact fk206 G
  · cases h; exact fk207 G
  · cases h; exact fk208 G
  · cases h; exact fk209 G
  · cases h; exact fk210 G
  · cases h; exact fk211 G
  · cases h; exact fk212 G
  · cases h; exact fk213 G
  · cases h; exact fk214 G
  · cases h; exact fk215 G
  · cases h; exact fk216 G
  · cases h; exact fk217 G
  · cases h; exact fk218 G
  · cases h; exact fk219 G
  · cases h
noncomputable def fnOf10 : Nat → Option Func
  | 220 => some Tryz.f220
  | 221 => some Tryz.f221
  | 222 => some Tryz.f222
  | 223 => some Tryz.f223
  | 224 => some Tryz.f224
  | 225 => some Tryz.f225
  | 226 => some Tryz.f226
  | 227 => some Tryz.f227
  | 228 => some Tryz.f228
  | 229 => some Tryz.f229
  | 230 => some Tryz.f230
  | _ => none
theorem fnOk10 (G : Gl) (n : Nat) (fn : Func) (h : fnOf10 n = some fn) : (CC G).P.funcs[n]? = some fn ∧ (fn.name == "runtime.NumGoroutine") = false ∧ fn.body.isSome = true ∧ lexF fn = true := by
  unfold fnOf10 at h
  split at h
  · cases h; exact fk220 G
  · cases h; exact fk221 G
  · cases h; exact fk222 G
  · cases h; exact fk223 G
  · cases h; exact fk224 G
  · cases h; exact fk225 G
  · cases h; exact fk226 G
  · cases h; exact fk227 G
  · cases h; exact fk228 G
  · cases h; exact fk229 G
  · cases h; exact fk230 G
  · cases h
noncomputable def fnOf (n : Nat) : Option Func := cond (Nat.ble n 22) (fnOf0 n) (cond (Nat.ble n 42) (fnOf1 n) (cond (Nat.ble n 62) (fnOf2 n) (cond (Nat.ble n 82) (fnOf3 n) (cond (Nat.ble n 102) (fnOf4 n) (cond (Nat.ble n 122) (fnOf5 n) (cond (Nat.ble n 142) (fnOf6 n) (cond (Nat.ble n 162) (fnOf7 n) (cond (Nat.ble n 198) (fnOf8 n) (cond (Nat.ble n 219) (fnOf9 n) (fnOf10 n))))))))))
theorem fnOf_ok (G : Gl) (n : Nat) (fn : Func) (h : fnOf n = some fn) : (CC G).P.funcs[n]? = some fn ∧ (fn.name == "runtime.NumGoroutine") = false ∧ fn.body.isSome = true ∧ lexF fn = true := by
  unfold fnOf at h
  cases h0 : Nat.ble n 22 with
  | true => rw [h0] at h; exact fnOk0 G n fn h
  | false =>
  rw [h0] at h; simp only [cond] at h
  cases h1 : Nat.ble n 42 with
  | true => rw [h1] at h; exact fnOk1 G n fn h
  | false =>
  rw [h1] at h; dsimp only at h
  cases h2 : Nat.ble n 62 with
  | true => rw [h2] at h; exact fnOk2 G n fn h
  | false =>
  rw [h2] at h; dsimp only at h
  cases h3 : Nat.ble n 82 with
  | true => rw [h3] at h; exact fnOk3 G n fn h
  | false =>
  rw [h3] at h; dsimp only at h
  cases h4 : Nat.ble n 102 with
  | true => rw [h4] at h; exact fnOk4 G n fn h
  | false =>
  rw [h4] at h; dsimp only at h
  cases h5 : Nat.ble n 122 with
  | true => rw [h5] at h; exact fnOk5 G n fn h
  | false =>
  rw [h5] at h; dsimp only at h
  cases h6 : Nat.ble n 142 with
  | true => rw [h6] at h; exact fnOk6 G n fn h
  | false =>
  rw [h6] at h; dsimp only at h
  cases h7 : Nat.ble n 162 with
  | true => rw [h7] at h; exact fnOk7 G n fn h
  | false =>
  rw [h7] at h; dsimp only at h
  cases h8 : Nat.ble n 198 with
  | true => rw [h8] at h; exact fnOk8 G n fn h
  | false =>
  rw [h8] at h; dsimp only at h
  cases h9 : Nat.ble n 219 with
  | true => rw [h9] at h; exact fnOk9 G n fn h
  | false =>
  rw [h9] at h; dsimp only at h
  exact fnOk10 G n fn h
/-- Functions' texts, with what is claimed at their loops. -/
noncomputable def bodyW (ann : Nat → Ann TT) (n : Nat) : Option (Func × Ann TT) := match fnOf n with
  | some fn => some (fn, ann n)
  | none => none
theorem bodyW_ok (G : Gl) (ann : Nat → Ann TT) : BodyOK (CC G) (bodyW ann) := by
  intro f fn a h
  unfold bodyW at h
  split at h
  · rename_i fn' hf
    cases h
    exact fnOf_ok G f _ hf
  · cases h
def no : Nat → Option (PT TT) := fun _ => none
end Pc
/-
  Arguments that are handed over for good: a row of one's own is frozen ahead of the call.
-/
set_option linter.unusedVariables false
namespace Go.Vg
variable {T : Tys}
def givL : List Bool → List (SV T) → List (Ent T) → (List (SV T) → List (Ent T) → VCT) → VCT
  | [], xs, H, k => k xs H
  | _ :: _, [], H, k => k [] H
  | b :: bs, x :: r, H, k => if b then frz x H fun y H => givL bs r H fun ys H => k (y :: ys) H else givL bs r H fun ys H => k (x :: ys) H
theorem givL_ok {C : Ctx T} {w : World} : ∀ (bs : List Bool) (xs : List (SV T)) (H : List (Ent T)) (k : List (SV T) → List (Ent T) → VCT), (givL bs xs H k).den → HOK C H w → SV.validL (Owns H) w xs →
    ∃ ys H', SV.toVL ys = SV.toVL xs ∧ (k ys H').den ∧ HOK C H' w ∧ SV.validL (Owns H') w ys ∧ Stp (Owns H) (Owns H') w w
  | [], xs, H, k, hk, hH, hx => ⟨xs, H, rfl, hk, hH, hx, Stp.refl _ _⟩
  | _ :: _, [], H, k, hk, hH, hx => ⟨[], H, rfl, hk, hH, trivial, Stp.refl _ _⟩
  | b :: bs, x :: r, H, k, hk, hH, hx => by
    unfold givL at hk
    split at hk
    · obtain ⟨y, H1, h1, h2, h3, h4, h5⟩ := frz_ok x H _ hk hH hx.1
      obtain ⟨ys, H2, g1, g2, g3, g4, g5⟩ := givL_ok bs r H1 _ h2 h3 (SV.validL_step h5 r hx.2)
      exact ⟨y :: ys, H2, by simp only [SV.toVL, h1, g1], g2, g3, ⟨SV.valid_step g5 y h4, g4⟩, h5.trans g5⟩
    · obtain ⟨ys, H2, g1, g2, g3, g4, g5⟩ := givL_ok bs r H _ hk hH hx.2
      exact ⟨x :: ys, H2, by simp only [SV.toVL, g1], g2, g3, ⟨SV.valid_step g5 x hx.1, g4⟩, g5⟩
def giv (bs : List Bool) (pt : PT T) : PT T := fun args H K Kp => givL bs args H fun a H => pt a H K Kp
theorem giv_ok {C : Ctx T} {f : Nat} {pt : PT T} (hs : SpecOK C f pt) (bs : List Bool) : SpecOK C f (giv bs pt) := by
  refine ⟨hs.enters, fun args H K Kp w hp hI => ?_⟩
  obtain ⟨ys, H2, g1, g2, g3, g4, g5⟩ := givL_ok bs args H _ hp hI.1 hI.2
  rw [← g1]
  refine (hs.calls ys H2 K Kp w g2 ⟨g3, g4⟩).mono ?_
  rintro e w' (⟨r, H', he, hk, hH', hr, hst⟩ | ⟨r, H', he, hk, hH', hr, hst⟩)
  · exact .inl ⟨r, H', he, hk, hH', hr, g5.trans hst⟩
  · exact .inr ⟨r, H', he, hk, hH', hr, g5.trans hst⟩
/-- As `ctr_ok`; what is claimed at loops may name the contract's own variables. -/
theorem ctr_okX {C : Ctx T} (hz : ZOK C) {sp : Nat → Option (PT T)} (hsp : ∀ f pt, sp f = some pt → SpecOK C f pt) (hm : C.P.follows .mixedOrders = true) {f : Nat} {fn : Func} (hf : C.P.funcs[f]? = some fn)
    (hname : (fn.name == "runtime.NumGoroutine") = false) (hb : fn.body.isSome = true) (hlx : lexF fn = true) (fz : Bool) (c : Ctr T) (ann : c.X → Ann T)
    (h : ∀ x, c.phi x → Met (fnx C sp (ann x) fn (c.args x) (c.H x) (outK fz (c.H x).length (c.ret x)) (c.pan x))) : SpecOK C f c.pt := by
  obtain ⟨cd, hc⟩ := Option.isSome_iff_exists.mp hb
  refine ctr_spec c (fun args w => MuLone.run_callFunc_enter hf hname hc args w) fun x hx w hI => ?_
  refine (fnx_ok hz hsp hm hf hlx (h x hx).den hI).mono ?_
  rintro e w' (⟨r, H', rfl, hk, hH', hr, hst⟩ | ⟨r, H', rfl, hk, hH', hr, hst⟩)
  · obtain ⟨r2, H2, g1, g2, g3, g4, g5⟩ := outK_ok hk hH' hr
    exact .inl ⟨r2, H2, by rw [g1], g2, g3, g4, hst.trans g5⟩
  · exact .inr ⟨r, H', rfl, hk, hH', hr, hst⟩
/-- A contract with a variable that the call does not tell. -/
def exPT {α : Type} (pt : α → PT T) : PT T := fun args H K Kp => .ex α fun g => pt g args H K Kp
theorem exPT_ok {C : Ctx T} {f : Nat} {α : Type} (a : α) {pt : α → PT T} (h : ∀ g, SpecOK C f (pt g)) : SpecOK C f (exPT pt) :=
  ⟨(h a).enters, fun args H K Kp w hp hI => by
    obtain ⟨g, hp⟩ := hp
    exact (h g).calls args H K Kp w hp hI⟩
end Go.Vg
/-
  Numbers as the program reckons them, in Lean's natural numbers.
-/
set_option linter.unusedVariables false
open Go Go.Vg
namespace Pc
theorem wr8 (n : Int) : IntKind.u8.wrap n = n % 256 := by simp [IntKind.wrap, IntKind.bits, IntKind.signed]
theorem wr32 (n : Int) : IntKind.u32.wrap n = n % 4294967296 := by simp [IntKind.wrap, IntKind.bits, IntKind.signed]
theorem wr64 (n : Int) : IntKind.u64.wrap n = n % 18446744073709551616 := by simp [IntKind.wrap, IntKind.bits, IntKind.signed]
theorem wrU {k : IntKind} (h : k.signed = false) (n : Int) : k.wrap n = n % (2 ^ k.bits : Int) := by simp [IntKind.wrap, h]
theorem wrN {k : IntKind} (h : k.signed = false) (n : Nat) : k.wrap (n : Int) = ((n % 2 ^ k.bits : Nat) : Int) := by
  rw [wrU h]; simp [Int.natCast_emod]
theorem wrId {k : IntKind} (h : k.signed = false) {n : Nat} (hn : n < 2 ^ k.bits) : k.wrap (n : Int) = (n : Int) := by
  rw [wrN h, Nat.mod_eq_of_lt hn]
theorem shrN (k : IntKind) (a n : Nat) : shrI k (a : Int) (n : Int) = ((a / 2 ^ (min n k.bits) : Nat) : Int) := by
  unfold shrI
  rw [Int.toNat_natCast, Int.fdiv_eq_ediv_of_nonneg _ (by exact Int.le_of_lt (Int.pow_pos (by decide)))]
  simp [Int.natCast_ediv]
theorem shlN {k : IntKind} (h : k.signed = false) (a n : Nat) : shlI k (a : Int) (n : Int) = ((a * 2 ^ (min n k.bits) % 2 ^ k.bits : Nat) : Int) := by
  unfold shlI
  rw [Int.toNat_natCast, wrU h]
  simp [Int.natCast_emod]
theorem bvN (k : IntKind) (a : Nat) : (BitVec.ofInt k.bits (a : Int)).toNat = a % 2 ^ k.bits := by
  simp
theorem andN {k : IntKind} (h : k.signed = false) {a b : Nat} (ha : a < 2 ^ k.bits) (hb : b < 2 ^ k.bits) : bitI .and k (a : Int) (b : Int) = ((a &&& b : Nat) : Int) := by
  unfold bitI
  simp only [BitVec.toNat_and, bvN, Nat.mod_eq_of_lt ha, Nat.mod_eq_of_lt hb]
  exact wrId h (Nat.lt_of_le_of_lt Nat.and_le_left ha)
theorem orN {k : IntKind} (h : k.signed = false) {a b : Nat} (ha : a < 2 ^ k.bits) (hb : b < 2 ^ k.bits) : bitI .or k (a : Int) (b : Int) = ((a ||| b : Nat) : Int) := by
  unfold bitI
  simp only [BitVec.toNat_or, bvN, Nat.mod_eq_of_lt ha, Nat.mod_eq_of_lt hb]
  exact wrId h (Nat.or_lt_two_pow ha hb)
theorem xorN {k : IntKind} (h : k.signed = false) {a b : Nat} (ha : a < 2 ^ k.bits) (hb : b < 2 ^ k.bits) : bitI .xor k (a : Int) (b : Int) = ((a ^^^ b : Nat) : Int) := by
  unfold bitI
  simp only [BitVec.toNat_xor, bvN, Nat.mod_eq_of_lt ha, Nat.mod_eq_of_lt hb]
  exact wrId h (Nat.xor_lt_two_pow ha hb)
/-- Bit k of a number. -/
def bt (v k : Nat) : Nat := v / 2 ^ k % 2
theorem bt_lt (v k : Nat) : bt v k < 2 := Nat.mod_lt _ (by decide)
theorem bt_test (v k : Nat) : bt v k = (v.testBit k).toNat := by
  unfold bt
  rw [Nat.testBit_eq_decide_div_mod_eq]
  have := Nat.mod_lt (v / 2 ^ k) (show 2 > 0 by decide)
  rcases Nat.mod_two_eq_zero_or_one (v / 2 ^ k) with h | h <;> simp [h]
theorem and_one (a : Nat) : a &&& 1 = a % 2 := Nat.and_one_is_mod a
end Pc
/-
  What the reference computes, in plain Lean: canonical codes, bits of bytes, reading.
-/
set_option linter.unusedVariables false
open Go Go.Vg
namespace Pc
/-- The lowest n bits in the other order. -/
def rev (v : Nat) : Nat → Nat
  | 0 => 0
  | n + 1 => 2 * rev v n + bt v n
/-- How many codes of n bits stand ahead: those of lesser lengths, and of i leading ones those of length n. -/
def nx : List Nat → Nat → Nat → Nat
  | [], _, _ => 0
  | l :: r, n, i => (if l < n then 2 ^ (n - l) else if l = n ∧ 0 < i then 1 else 0) + nx r n (i - 1)
def kraft : List Nat → Nat
  | [] => 0
  | l :: r => 2 ^ (20 - l) + kraft r
structure Good (lens : List Nat) : Prop where
  two : 2 ≤ lens.length
  sixty : lens.length ≤ 60
  pos : ∀ l ∈ lens, 1 ≤ l ∧ l ≤ 20
  whole : kraft lens = 2 ^ 20
/-- Codes of which those up to length n, and of length n the leading i, have their values. -/
def outL (lens : List Nat) (n i : Nat) : List Cd := lens.mapIdx fun (j l : Nat) => ⟨j, 0, l, if l < n ∨ (l = n ∧ j < i) then (rev (nx lens l j) l : Nat) else 0⟩
def canonL (lens : List Nat) : List Cd := lens.mapIdx fun (j l : Nat) => ⟨j, 0, l, (rev (nx lens l j) l : Nat)⟩
def linedL (lens : List Nat) : List Cd := lens.mapIdx fun (j l : Nat) => ⟨j, 0, l, 0⟩
def ints (l : List Nat) : List Int := l.map fun (n : Nat) => (n : Int)
/-- Ranges from a base on. -/
def rgL : Nat → List Nat → List Rg
  | _, [] => []
  | b, l :: r => ⟨b, l⟩ :: rgL (b + 2 ^ l) r
/-- The bits of a byte, and of bytes. -/
def byteBits (big : Bool) (v : Nat) : List Nat := (List.range 8).map fun k => bt v (if big then 7 - k else k)
def bitsOf (big : Bool) (bs : List Nat) : List Nat := bs.flatMap (byteBits big)
def numL : List Nat → Nat
  | [] => 0
  | b :: r => b + 2 * numL r
theorem ints_get {l : List Nat} {i : Nat} {x : Int} (h : (ints l)[i]? = some x) : ∃ n, l[i]? = some n ∧ x = (n : Int) := by
  unfold ints at h
  rw [List.getElem?_map, Option.map_eq_some_iff] at h
  obtain ⟨n, h1, h2⟩ := h
  exact ⟨n, h1, h2.symm⟩
theorem ints_len (l : List Nat) : (ints l).length = l.length := by simp [ints]
theorem rev_lt (v : Nat) : ∀ n, rev v n < 2 ^ n
  | 0 => by simp [rev]
  | n + 1 => by
    have := rev_lt v n
    have := bt_lt v n
    simp only [rev, Nat.pow_succ]
    omega
theorem nx_next : ∀ (l : List Nat) (n : Nat), nx l (n + 1) 0 = 2 * nx l n l.length
  | [], n => rfl
  | l :: r, n => by
    have ih := nx_next r n
    simp only [nx, List.length_cons, Nat.add_sub_cancel, Nat.zero_sub, ih]
    by_cases h : l < n
    · rw [if_pos (by omega), if_pos h, show n + 1 - l = (n - l) + 1 by omega, Nat.pow_succ]
      omega
    · by_cases h2 : l = n
      · subst h2
        rw [if_pos (by omega), if_neg (by omega), if_pos ⟨rfl, by omega⟩]
        have : l + 1 - l = 1 := by omega
        rw [this]
        omega
      · rw [if_neg (by omega), if_neg (by omega), if_neg h, if_neg (by omega)]
        omega
theorem nx_succ : ∀ (l : List Nat) (n i : Nat), i < l.length → nx l n (i + 1) = nx l n i + (if l.getD i 0 = n then 1 else 0)
  | [], n, i, h => by simp at h
  | l :: r, n, 0, h => by
    simp only [nx, List.getD_cons_zero, Nat.zero_add, Nat.sub_self, Nat.zero_sub]
    by_cases h1 : l < n
    · rw [if_pos h1, if_pos h1, if_neg (by omega)]; omega
    · rw [if_neg h1, if_neg h1]
      by_cases h2 : l = n
      · simp [h2]; omega
      · simp [h2]
  | l :: r, n, i + 1, h => by
    have ih := nx_succ r n i (by simpa using h)
    simp only [nx, List.getD_cons_succ, Nat.add_sub_cancel, ih]
    by_cases h1 : l < n
    · rw [if_pos h1, if_pos h1]; omega
    · rw [if_neg h1, if_neg h1]
      simp
      omega
theorem nx_le : ∀ (l : List Nat) (n i : Nat), (∀ x ∈ l, x ≤ 20) → n ≤ 20 → nx l n i * 2 ^ (20 - n) ≤ kraft l
  | [], n, i, _, _ => by simp [nx, kraft]
  | l :: r, n, i, h, hn => by
    have ih := nx_le r n (i - 1) (fun x hx => h x (List.mem_cons_of_mem _ hx)) hn
    have hl := h l List.mem_cons_self
    simp only [nx, kraft, Nat.add_mul]
    have : (if l < n then 2 ^ (n - l) else if l = n ∧ 0 < i then 1 else 0) * 2 ^ (20 - n) ≤ 2 ^ (20 - l) := by
      by_cases h1 : l < n
      · rw [if_pos h1, ← Nat.pow_add, show n - l + (20 - n) = 20 - l by omega]
        exact Nat.le_refl _
      · rw [if_neg h1]
        by_cases h2 : l = n ∧ 0 < i
        · rw [if_pos h2, h2.1]; simp
        · rw [if_neg h2]; simp
    omega
theorem nx_bound {lens : List Nat} (h : Good lens) {n i : Nat} (hn : n ≤ 20) : nx lens n i ≤ 2 ^ n := by
  have h1 := nx_le lens n i (fun x hx => (h.pos x hx).2) hn
  rw [h.whole] at h1
  have h2 : (2 : Nat) ^ 20 = 2 ^ n * 2 ^ (20 - n) := by rw [← Nat.pow_add]; congr 1; omega
  rw [h2] at h1
  exact Nat.le_of_mul_le_mul_right h1 (Nat.pow_pos (by decide))
end Pc
/-
  How conditions are taken apart.
-/
set_option linter.unusedVariables false
open Go Go.Vg
namespace Pc
theorem br_d {p : Prop} [Decidable p] {a b : Prop} : Br (decide p) a b ↔ (p → a) ∧ (¬ p → b) := by
  by_cases h : p <;> simp [Br, h]
theorem br_i {x y : Int} {a b : Prop} : Br (x == y) a b ↔ (x = y → a) ∧ (x ≠ y → b) := by
  have : (x == y) = decide (x = y) := rfl
  rw [this]
  exact br_d
theorem br_n {t : Bool} {a b : Prop} : Br (!t) a b ↔ Br t b a := by
  cases t <;> simp [Br]
theorem br_b {t : Bool} {a b : Prop} : Br t a b ↔ (t = true → a) ∧ (t = false → b) := by
  cases t <;> simp [Br]
theorem rel_self {T : Tys} (m : Rel T) : relLe m m ↔ True := ⟨fun _ => trivial, fun _ => relLe.refl m⟩
theorem rel_add {T : Tys} (m : Rel T) (e : TypeId) (x : Value) (l : List (T.El e)) : relLe m (relAdd m e x l) ↔ True := ⟨fun _ => trivial, fun _ => relLe.add m e x l⟩
theorem rel_add1 {T : Tys} (m : Rel T) (e : TypeId) (x : Value) (l : List (T.El e)) : relLe m (relAdd1 m e x l) ↔ True := ⟨fun _ => trivial, fun _ => relLe.add1 m e x l⟩
theorem noteS_le {T : Tys} : ∀ (segs : List (Seg T)) (rel : Rel T), relLe rel (noteS segs rel)
  | [], rel => relLe.refl _
  | a :: r, rel => by
    unfold noteS
    split
    · rename_i h; cases h
    · rename_i h; cases h
      exact (relLe.add1 _ _ _ _).trans (noteS_le _ _)
    · rename_i h; cases h
      exact noteS_le _ _
theorem linedL_len (l : List Nat) : (linedL l).length = l.length := by simp [linedL]
theorem outL_len (l : List Nat) (n i : Nat) : (outL l n i).length = l.length := by simp [outL]
theorem canonL_len (l : List Nat) : (canonL l).length = l.length := by simp [canonL]
theorem rgL_len : ∀ (l : List Nat) (b : Nat), (rgL b l).length = l.length
  | [], b => rfl
  | _ :: r, b => by simp [rgL, rgL_len r]
theorem ints_nats {l : List Int} (h : ∀ x ∈ l, 0 ≤ x) : ints (l.map Int.toNat) = l := by
  unfold ints
  rw [List.map_map]
  exact (List.map_congr_left fun x hx => by simp only [Function.comp, Int.toNat_of_nonneg (h x hx)]; rfl).trans (List.map_id _)
theorem nats_ints (l : List Nat) : (ints l).map Int.toNat = l := by
  unfold ints
  rw [List.map_map]
  exact (List.map_congr_left fun x hx => by simp).trans (List.map_id _)
theorem linedL_get {l : List Nat} {i : Nat} {c : Cd} (h : (linedL l)[i]? = some c) : ∃ n : Nat, l[i]? = some n ∧ c = ⟨i, 0, n, 0⟩ := by
  unfold linedL at h
  rw [List.getElem?_mapIdx, Option.map_eq_some_iff] at h
  obtain ⟨n, h1, h2⟩ := h
  exact ⟨n, h1, h2.symm⟩
theorem canonL_get {l : List Nat} {j : Nat} {c : Cd} (h : (canonL l)[j]? = some c) : ∃ k : Nat, l[j]? = some k ∧ c = ⟨j, 0, k, (rev (nx l k j) k : Nat)⟩ := by
  unfold canonL at h
  rw [List.getElem?_mapIdx, Option.map_eq_some_iff] at h
  obtain ⟨n, h1, h2⟩ := h
  exact ⟨n, h1, h2.symm⟩
theorem outL_get {l : List Nat} {n i j : Nat} {c : Cd} (h : (outL l n i)[j]? = some c) : ∃ k : Nat, l[j]? = some k ∧ c = ⟨j, 0, k, if k < n ∨ (k = n ∧ j < i) then (rev (nx l k j) k : Nat) else 0⟩ := by
  unfold outL at h
  rw [List.getElem?_mapIdx, Option.map_eq_some_iff] at h
  obtain ⟨n, h1, h2⟩ := h
  exact ⟨n, h1, h2.symm⟩
theorem take_succ {α : Type} {l : List α} {i : Nat} {x : α} (h : l[i]? = some x) : l.take (i + 1) = l.take i ++ [x] := by
  rw [List.take_add_one, h]; rfl
theorem kraft_app : ∀ (a b : List Nat), kraft (a ++ b) = kraft a + kraft b
  | [], b => by simp [kraft]
  | x :: a, b => by simp only [List.cons_append, kraft, kraft_app a b]; omega
theorem kraft_take_succ {l : List Nat} {i n : Nat} (h : l[i]? = some n) : kraft (l.take (i + 1)) = kraft (l.take i) + 2 ^ (20 - n) := by
  rw [take_succ h, kraft_app]; simp [kraft]
theorem kraft_le : ∀ l : List Nat, kraft l ≤ l.length * 2 ^ 20
  | [] => Nat.zero_le _
  | x :: r => by
    have := kraft_le r
    have : (2 : Nat) ^ (20 - x) ≤ 2 ^ 20 := Nat.pow_le_pow_right (by decide) (by omega)
    simp only [kraft, List.length_cons, Nat.add_mul, Nat.one_mul]
    omega
def sum2 : List Nat → Nat
  | [] => 0
  | l :: r => 2 ^ l + sum2 r
theorem linedL_next {l : List Nat} {i n : Nat} (h : l[i]? = some n) : linedL (l.take (i + 1)) = linedL (l.take i) ++ [Cd.mk i 0 n 0] := by
  rw [take_succ h]
  unfold linedL
  rw [List.mapIdx_append]
  have hi : i ≤ l.length := by have := (List.getElem?_eq_some_iff.1 h).1; omega
  simp [List.length_take, Nat.min_eq_left hi]
theorem rgL_app : ∀ (a c : List Nat) (b : Nat), rgL b (a ++ c) = rgL b a ++ rgL (b + sum2 a) c
  | [], c, b => by simp [rgL, sum2]
  | x :: a, c, b => by simp [rgL, sum2, rgL_app a c, Nat.add_assoc]
theorem rgL_next {l : List Nat} {i n : Nat} (h : l[i]? = some n) : rgL 0 (l.take (i + 1)) = rgL 0 (l.take i) ++ [Rg.mk (sum2 (l.take i)) n] := by
  rw [take_succ h, rgL_app]; simp [rgL]
theorem sum2_app : ∀ (a b : List Nat), sum2 (a ++ b) = sum2 a + sum2 b
  | [], b => by simp [sum2]
  | x :: a, b => by simp only [List.cons_append, sum2, sum2_app a b]; omega
theorem sum2_next {l : List Nat} {i n : Nat} (h : l[i]? = some n) : sum2 (l.take (i + 1)) = sum2 (l.take i) + 2 ^ n := by
  rw [take_succ h, sum2_app]; simp [sum2]
theorem sum2_le : ∀ l : List Nat, (∀ x ∈ l, x ≤ 20) → sum2 l ≤ l.length * 2 ^ 20
  | [], _ => Nat.zero_le _
  | x :: r, h => by
    have := sum2_le r fun y hy => h y (List.mem_cons_of_mem _ hy)
    have : (2 : Nat) ^ x ≤ 2 ^ 20 := Nat.pow_le_pow_right (by decide) (h x List.mem_cons_self)
    simp only [sum2, List.length_cons, Nat.add_mul, Nat.one_mul]
    omega
theorem nx_zero : ∀ {l : List Nat} {i : Nat}, (∀ x ∈ l, 1 ≤ x ∧ x ≤ 20) → nx l 0 i = 0
  | [], _, _ => rfl
  | x :: r, i, h => by
    have := nx_zero (l := r) (i := i - 1) fun y hy => h y (List.mem_cons_of_mem _ hy)
    have hx := h x List.mem_cons_self
    simp only [nx, this]
    rw [if_neg (by omega), if_neg (by omega)]
theorem nx_one : ∀ {l : List Nat}, (∀ x ∈ l, 1 ≤ x ∧ x ≤ 20) → nx l 1 0 = 0
  | [], _ => rfl
  | x :: r, h => by
    have := nx_one (l := r) fun y hy => h y (List.mem_cons_of_mem _ hy)
    have hx := h x List.mem_cons_self
    simp only [nx, Nat.zero_sub, this]
    rw [if_neg (by omega), if_neg (by omega)]
theorem mapIdx_congr' {α β : Type} {l : List α} {f g : Nat → α → β} (h : ∀ i a, l[i]? = some a → f i a = g i a) : l.mapIdx f = l.mapIdx g := by
  refine List.ext_getElem? fun i => ?_
  rw [List.getElem?_mapIdx, List.getElem?_mapIdx]
  cases hi : l[i]? with
  | none => rfl
  | some a => exact congrArg some (h i a hi)
theorem outL_one {l : List Nat} (h : ∀ x ∈ l, 1 ≤ x ∧ x ≤ 20) : outL l 1 0 = linedL l := by
  unfold outL linedL
  refine mapIdx_congr' fun i a ha => ?_
  have := h a (List.mem_of_getElem? ha)
  rw [if_neg (by omega)]
theorem outL_end {l : List Nat} {n : Nat} (hn : 20 < n) (h : ∀ x ∈ l, 1 ≤ x ∧ x ≤ 20) : outL l n 0 = canonL l := by
  unfold outL canonL
  refine mapIdx_congr' fun i a ha => ?_
  have := h a (List.mem_of_getElem? ha)
  rw [if_pos (by omega)]
theorem outL_wide {l : List Nat} {n i : Nat} (hi : l.length ≤ i) : outL l n i = outL l (n + 1) 0 := by
  unfold outL
  refine mapIdx_congr' fun j a ha => ?_
  have := (List.getElem?_eq_some_iff.1 ha).1
  by_cases h : a < n ∨ (a = n ∧ j < i)
  · rw [if_pos h, if_pos (by omega)]
  · rw [if_neg h, if_neg (by omega)]
theorem outL_skip {l : List Nat} {n i k : Nat} (hk : l[i]? = some k) (h : k ≠ n) : outL l n (i + 1) = outL l n i := by
  unfold outL
  refine mapIdx_congr' fun j a ha => ?_
  by_cases hj : j = i
  · subst hj
    obtain rfl := Option.some.inj (hk.symm.trans ha)
    by_cases h1 : k < n
    · rw [if_pos (.inl h1), if_pos (.inl h1)]
    · rw [if_neg (by omega), if_neg (by omega)]
  · by_cases h1 : a < n ∨ (a = n ∧ j < i)
    · rw [if_pos h1, if_pos (by omega)]
    · rw [if_neg h1, if_neg (by omega)]
theorem outL_set {l : List Nat} {n i : Nat} (hk : l[i]? = some n) : (outL l n i).set i (Cd.mk i 0 n ((rev (nx l n i) n : Nat) : Int)) = outL l n (i + 1) := by
  refine List.ext_getElem? fun j => ?_
  rw [List.getElem?_set]
  unfold outL
  simp only [List.length_mapIdx, List.getElem?_mapIdx]
  have hi := (List.getElem?_eq_some_iff.1 hk).1
  by_cases hj : i = j
  · subst hj
    rw [if_pos rfl, if_pos hi, hk]
    simp
  · rw [if_neg hj]
    cases ha : l[j]? with
    | none => rfl
    | some a =>
      simp only [Option.map_some]
      by_cases h1 : a < n ∨ (a = n ∧ j < i)
      · rw [if_pos h1, if_pos (by omega)]
      · rw [if_neg h1, if_neg (by omega)]
theorem nx_wide : ∀ (l : List Nat) (n i : Nat), l.length ≤ i → nx l n i = nx l n l.length
  | [], _, _, _ => rfl
  | x :: r, n, i, h => by
    simp only [List.length_cons] at h ⊢
    simp only [nx]
    rw [nx_wide r n (i - 1) (by omega), Nat.add_sub_cancel]
    by_cases h1 : x < n
    · rw [if_pos h1, if_pos h1]
    · rw [if_neg h1, if_neg h1]
      by_cases h2 : x = n
      · rw [if_pos ⟨h2, by omega⟩, if_pos ⟨h2, by omega⟩]
      · rw [if_neg (by omega), if_neg (by omega)]
theorem wrI {n : Int} (h0 : 0 ≤ n) (h1 : n < 9223372036854775808) : IntKind.i64.wrap n = n := by
  simp only [IntKind.wrap, IntKind.bits, IntKind.signed]
  simp
  omega
theorem sliceVal_all (A : Option Addr) (n c sz : Nat) : sliceVal (.slice A n c) 0 n sz = .slice A n c := by
  cases A with
  | none => simp [sliceVal]
  | some a => simp [sliceVal, Addr.add]
theorem or_add {a n b : Nat} (h : a < 2 ^ n) : a ||| (b * 2 ^ n) = a + 2 ^ n * b := by
  have := Nat.two_pow_add_eq_or_of_lt h b
  rw [Nat.or_comm, Nat.mul_comm, ← this, Nat.add_comm]
theorem ints_drop (l : List Nat) (n : Nat) : ((ints l).take (ints l).length).drop n = ints (l.drop n) := by
  unfold ints; rw [List.take_length, List.map_drop]
theorem rgL_sum : ∀ {l : List Nat} {b i : Nat} {r : Rg}, (rgL b l)[i]? = some r → ∃ n, l[i]? = some n ∧ r = ⟨(b + sum2 (l.take i) : Nat), n⟩
  | [], _, _, _, h => by simp [rgL] at h
  | x :: l, b, 0, r, h => by
    simp only [rgL, List.getElem?_cons_zero, Option.some.injEq] at h
    exact ⟨x, by simp, by subst h; simp [sum2]⟩
  | x :: l, b, i + 1, r, h => by
    simp only [rgL, List.getElem?_cons_succ] at h
    obtain ⟨n, h1, rfl⟩ := rgL_sum h
    exact ⟨n, by simpa using h1, by simp [sum2]; omega⟩
end Pc
/-
  Contracts of the law's and the reference's small functions.
-/
set_option linter.unusedVariables false
set_option maxRecDepth 100000
open Go Go.Vg Go.Proofs
namespace Pc
abbrev Fz := Nat → Option Obj
noncomputable def NA : Nat → Ann TT := fun _ => noAnn
noncomputable def IN (G : Gl) (base : Nat → Option (PT TT)) (ann : Nat → Ann TT) : Nat → Option (PT TT) := inl (CC G) base (bodyW ann) 12
def fr2 (m : Fz) (rel : Rel TT) : List (Ent TT) := [.F m, .R rel]
def iv (k : IntKind) (n : Nat) : SV TT := .v (.int k (n : Int))
def nilV : SV TT := .v (.slice none 0 0)
def bv (b : Bool) : SV TT := .v (.bool b)
def nats (l : List Int) : List Nat := l.map Int.toNat

/-- A contract from a function's text. -/
theorem spec (G : Gl) {base : Nat → Option (PT TT)} (hb : ∀ f pt, base f = some pt → SpecOK (CC G) f pt) {f : Nat} {fn : Func} (hf : fnOf f = some fn) (anns : Nat → Ann TT) (c : Ctr TT) (ann : c.X → Ann TT)
    (h : ∀ x, c.phi x → Met (fnx (CC G) (IN G base anns) (ann x) fn (c.args x) (c.H x) (outK true (c.H x).length (c.ret x)) (c.pan x))) : SpecOK (CC G) f c.pt := by
  obtain ⟨h1, h2, h3, h4⟩ := fnOf_ok G f fn hf
  exact ctr_okX (zok G) (inl_ok (zok G) (mixed G) hb (bodyW_ok G anns) 12) (mixed G) h1 h2 h3 h4 true c ann h
theorem no_ok (G : Gl) : ∀ f pt, no f = some pt → SpecOK (CC G) f pt := fun _ _ h => by cases h
/-! zzFits6: some bool. -/
def c16 : Ctr TT where
  X := Fz × Rel TT × Value × List Pt
  find a H := match a, H with
    | [.ro 36 x l], [.F m, .R rel] => some (m, rel, x, l)
    | _, _ => none
  phi _ := True
  args x := [.ro 36 x.2.2.1 x.2.2.2]
  H x := fr2 x.1 x.2.1
  outs := [{ Y := fun _ => Bool, psi := fun _ _ => True, res := fun _ y => bv y, H := fun x _ => fr2 x.1 x.2.1 }]
noncomputable def a16 (l : List Pt) : Ann TT := fun r S => cond (Nat.beq r 4) (some {
    X := Nat
    phi := fun i => i ≤ l.length
    fr := fun i => [(10, iv .i64 i)]
    H := fun i => []
    mu := fun i => l.length - i }) none

/-! light -/
def lightB (l : List Pt) : Prop := l.length ≤ 60 ∧ ∀ p ∈ l, 0 ≤ p.kind ∧ p.kind ≤ 4 ∧ (p.kind = 0 → p.n ≤ 32) ∧ p.s.n ≤ 40 ∧ (p.kind = 4 → p.n ≤ 40)
def c18 : Ctr TT where
  X := Fz × Rel TT × Value × List Pt
  find a H := match a, H with
    | [.ro 36 x l], [.F m, .R rel] => some (m, rel, x, l)
    | _, _ => none
  phi _ := True
  args x := [.ro 36 x.2.2.1 x.2.2.2]
  H x := fr2 x.1 x.2.1
  outs := [{ Y := fun _ => Bool, psi := fun x y => y = true → lightB x.2.2.2, res := fun _ y => bv y, H := fun x _ => fr2 x.1 x.2.1 }]
noncomputable def a18 (l : List Pt) : Ann TT := fun r S => cond (Nat.beq r 4) (some {
    X := Nat
    phi := fun i => i ≤ l.length ∧ l.length ≤ 60 ∧ ∀ j p, j < i → l[j]? = some p → 0 ≤ p.kind ∧ p.kind ≤ 4 ∧ (p.kind = 0 → p.n ≤ 32) ∧ p.s.n ≤ 40 ∧ (p.kind = 4 → p.n ≤ 40)
    fr := fun i => [(3, iv .i64 i)]
    H := fun i => []
    mu := fun i => l.length - i }) none

/-! turned -/
def c98 : Ctr TT where
  X := Fz × Rel TT × Nat × Nat
  find a H := match a, H with
    | [.v (.int .u32 v), .v (.int .u32 n)], [.F m, .R rel] => some (m, rel, v.toNat, n.toNat)
    | _, _ => none
  phi x := x.2.2.1 < 4294967296 ∧ x.2.2.2 ≤ 20
  args x := [iv .u32 x.2.2.1, iv .u32 x.2.2.2]
  H x := fr2 x.1 x.2.1
  outs := [{ Y := fun _ => Unit, psi := fun _ _ => True, res := fun x _ => iv .u32 (rev x.2.2.1 x.2.2.2), H := fun x _ => fr2 x.1 x.2.1 }]
noncomputable def a98 (v n : Nat) : Ann TT := fun r S => cond (Nat.beq r 3) (some {
    X := Nat
    phi := fun i => i ≤ n
    fr := fun i => [(5, iv .u32 (rev v i)), (6, iv .u32 i)]
    H := fun i => []
    mu := fun i => n - i }) none

/-! KraftSum -/
def okLens (ns : List Nat) : Prop := 2 ≤ ns.length ∧ ns.length ≤ 60 ∧ ∀ l ∈ ns, 1 ≤ l ∧ l ≤ 20
def lensOf (l : List Cd) : List Nat := l.map fun c => c.len.toNat
def c97 : Ctr TT where
  X := Fz × Rel TT × Value × List Nat
  find a H := match a, H with
    | [.ro 90 x l], [.F m, .R rel] => some (m, rel, x, lensOf l)
    | _, _ => none
  phi x := okLens x.2.2.2
  args x := [.ro 90 x.2.2.1 (linedL x.2.2.2)]
  H x := fr2 x.1 x.2.1
  outs := [{ Y := fun _ => Unit, psi := fun _ _ => True, res := fun x _ => iv .u64 (kraft x.2.2.2), H := fun x _ => fr2 x.1 x.2.1 }]
noncomputable def a97 (ns : List Nat) : Ann TT := fun r S => cond (Nat.beq r 3) (some {
    X := Nat
    phi := fun i => i ≤ ns.length
    fr := fun i => [(3, iv .u64 (kraft (ns.take i))), (4, iv .i64 i)]
    H := fun i => []
    mu := fun i => ns.length - i }) none

/-! lined, from symbol 0 on, without steps -/
def c44 : Ctr TT where
  X := Fz × Rel TT × Value × List Nat
  find a H := match a, H with
    | [.v (.int .u8 0), .v (.slice none 0 0), .ro 5 x l], [.F m, .R rel] => some (m, rel, x, nats l)
    | _, _ => none
  phi x := ∀ n ∈ x.2.2.2, n < 256
  args x := [iv .u8 0, nilV, .ro 5 x.2.2.1 (ints x.2.2.2)]
  H x := fr2 x.1 x.2.1
  outs := [
    { Y := fun _ => Unit, psi := fun x _ => ¬ okLens x.2.2.2, res := fun x _ => .t [nilV, bv false], H := fun x _ => fr2 x.1 x.2.1 },
    { Y := fun _ => Value, psi := fun x _ => okLens x.2.2.2, res := fun x y => .t [.ro 90 y (linedL x.2.2.2), bv true], H := fun x _ => fr2 x.1 x.2.1 }]
noncomputable def a44 (ns : List Nat) : Ann TT := fun r S => cond (Nat.beq r 6) (some {
    pre := [.own 8 90]
    X := Nat × Value × Rel TT
    phi := fun x => x.1 ≤ ns.length ∧ 2 ≤ ns.length ∧ ns.length ≤ 60 ∧ ∀ j p, j < x.1 → ns[j]? = some p → 1 ≤ p ∧ p ≤ 20
    fr := fun x => [(8, .o 2 90 x.2.1 x.1), (9, iv .u32 (x.1 - 1)), (10, iv .i64 x.1)]
    H := fun x => [(2, .O x.2.1 90 (linedL (ns.take x.1)))]
    mu := fun x => ns.length - x.1 }) none

/-! MakeRanges, from 0 on -/
def c46 : Ctr TT where
  X := Fz × Rel TT × Value × List Nat
  find a H := match a, H with
    | [.v (.int .u64 0), .ro 34 x l], [.F m, .R rel] => some (m, rel, x, nats l)
    | _, _ => none
  phi x := x.2.2.2.length ≤ 30 ∧ ∀ n ∈ x.2.2.2, n ≤ 20
  args x := [iv .u64 0, .ro 34 x.2.2.1 (ints x.2.2.2)]
  H x := fr2 x.1 x.2.1
  outs := [{ Y := fun _ => Value, psi := fun x _ => True, res := fun x y => .t [.ro 97 y (rgL 0 x.2.2.2), iv .u32 (sum2 x.2.2.2)], H := fun x _ => fr2 x.1 x.2.1 }]
noncomputable def a46 (ns : List Nat) : Ann TT := fun r S => cond (Nat.beq r 4) (some {
    pre := [.own 6 97]
    X := Nat × Value
    phi := fun x => x.1 ≤ ns.length
    fr := fun x => [(6, .o 2 97 x.2 x.1), (7, iv .u32 (sum2 (ns.take x.1))), (8, iv .i64 x.1)]
    H := fun x => [(2, .O x.2 97 (rgL 0 (ns.take x.1)))]
    mu := fun x => ns.length - x.1 }) none

/-! Canonical -/
def c47 : Ctr TT where
  X := Fz × Rel TT × Value × List Nat
  find a H := match a, H with
    | [.ro 90 x l], [.F m, .R rel] => some (m, rel, x, lensOf l)
    | _, _ => none
  phi x := Good x.2.2.2
  args x := [.ro 90 x.2.2.1 (linedL x.2.2.2)]
  H x := fr2 x.1 x.2.1
  outs := [{ Y := fun _ => Value, psi := fun x _ => True, res := fun x y => .ro 90 y (canonL x.2.2.2), H := fun x _ => fr2 x.1 x.2.1 }]
noncomputable def a47 (ns : List Nat) : Ann TT := fun r S => match S.get 3 with
  | some (.o _ _ gx _) => cond (Nat.beq r 4) (some {
      X := Nat
      phi := fun n => 1 ≤ n ∧ n ≤ 21
      fr := fun n => [(4, iv .u32 (nx ns (n - 1) ns.length)), (5, iv .u32 n)]
      H := fun n => [(2, .O gx 90 (outL ns n 0))]
      mu := fun n => 21 - n }) (cond (Nat.beq r 8) (match S.get 5 with
        | some (.v (.int _ nn)) => some {
          X := Nat
          phi := fun i => i ≤ ns.length
          fr := fun i => [(4, iv .u32 (nx ns nn.toNat i)), (6, iv .i64 i)]
          H := fun i => [(2, .O gx 90 (outL ns nn.toNat i))]
          mu := fun i => ns.length - i }
        | _ => none) none)
  | _ => none

/-! given -/
def c17 : Ctr TT where
  X := Fz × Rel TT × Value × List Nat × Value × List Nat
  find a H := match a, H with
    | [.ro 5 x l, .ro 5 y k], [.F m, .R rel] => some (m, rel, x, nats l, y, nats k)
    | _, _ => none
  phi x := (∀ n ∈ x.2.2.2.1, n < 256) ∧ (∀ n ∈ x.2.2.2.2.2, n < 256)
  args x := [.ro 5 x.2.2.1 (ints x.2.2.2.1), .ro 5 x.2.2.2.2.1 (ints x.2.2.2.2.2)]
  H x := fr2 x.1 x.2.1
  outs := [
    { Y := fun _ => Unit, psi := fun x _ => True, res := fun x _ => .t [nilV, nilV, bv false], H := fun x _ => fr2 x.1 x.2.1 },
    { Y := fun _ => Value × Value, psi := fun x _ => Good x.2.2.2.1 ∧ x.2.2.2.2.2.length ≤ 30 ∧ ∀ n ∈ x.2.2.2.2.2, n ≤ 20,
      res := fun x y => .t [.ro 90 y.1 (canonL x.2.2.2.1), .ro 97 y.2 (rgL 0 x.2.2.2.2.2), bv true], H := fun x _ => fr2 x.1 x.2.1 }]
noncomputable def a17 (es : List Nat) : Ann TT := fun r S => cond (Nat.beq r 6) (some {
    pre := [.own 9 34]
    X := Nat × Value
    phi := fun x => x.1 ≤ es.length ∧ es.length ≤ 30 ∧ ∀ j p, j < x.1 → es[j]? = some p → p ≤ 20
    fr := fun x => [(9, .o 2 34 x.2 x.1), (10, iv .i64 x.1)]
    H := fun x => [(2, .O x.2 34 (ints (es.take x.1)))]
    mu := fun x => es.length - x.1 }) none
noncomputable def b47 : Nat → Option (PT TT)
  | 98 => some (loc [none, none] c98.pt)
  | _ => none
noncomputable def b17 : Nat → Option (PT TT)
  | 44 => some (loc [none, none, some 5] c44.pt)
  | 97 => some (loc [some 90] c97.pt)
  | 46 => some (giv [false, true] (loc [none, some 34] c46.pt))
  | 47 => some (loc [some 90] c47.pt)
  | _ => none
theorem lensOf_lined (l : List Nat) : lensOf (linedL l) = l := by
  unfold lensOf linedL
  refine List.ext_getElem? fun j => ?_
  rw [List.getElem?_map, List.getElem?_mapIdx]
  cases l[j]? <;> simp
end Pc
/-
  Whole codes: each word begins by just one of them.
-/
set_option linter.unusedVariables false
open Go Go.Vg
namespace Pc
theorem bt_zero {a b : Nat} (hb : b < 2) : bt (2 * a + b) 0 = b := by simp only [bt]; omega
theorem bt_next {a b : Nat} (hb : b < 2) (k : Nat) : bt (2 * a + b) (k + 1) = bt a k := by
  simp only [bt, Nat.pow_succ, Nat.mul_comm (2 ^ k) 2]
  rw [← Nat.div_div_eq_div_mul, show (2 * a + b) / 2 = a by omega]
theorem bt_rev (v : Nat) : ∀ (n k : Nat), k < n → bt (rev v n) k = bt v (n - 1 - k)
  | 0, k, h => by omega
  | n + 1, 0, h => by rw [rev, bt_zero (bt_lt v n)]; rfl
  | n + 1, k + 1, h => by
    rw [rev, bt_next (bt_lt v n), bt_rev v n k (by omega)]
    congr 1; omega
theorem bt_over {v n k : Nat} (h : v < 2 ^ n) (hk : n ≤ k) : bt v k = 0 := by
  unfold bt
  rw [Nat.div_eq_of_lt (Nat.lt_of_lt_of_le h (Nat.pow_le_pow_right (by decide) hk))]
theorem bt_mod {v n k : Nat} (h : k < n) : bt (v % 2 ^ n) k = bt v k := by
  rw [bt_test, bt_test, Nat.testBit_mod_two_pow, decide_eq_true h, Bool.true_and]
theorem toNat_inj {a b : Bool} (h : a.toNat = b.toNat) : a = b := by cases a <;> cases b <;> simp_all
theorem eq_bt {a b n : Nat} (ha : a < 2 ^ n) (hb : b < 2 ^ n) (h : ∀ k, k < n → bt a k = bt b k) : a = b := by
  refine Nat.eq_of_testBit_eq fun k => toNat_inj ?_
  rw [← bt_test, ← bt_test]
  by_cases hk : k < n
  · exact h k hk
  · rw [bt_over ha (by omega), bt_over hb (by omega)]
theorem rev_rev {c n : Nat} (h : c < 2 ^ n) : rev (rev c n) n = c := by
  refine eq_bt (n := n) (rev_lt _ _) h fun k hk => ?_
  rw [bt_rev _ _ _ hk, bt_rev _ _ _ (by omega)]
  congr 1; omega
theorem rev_mod (v n : Nat) : rev (v % 2 ^ n) n = rev v n := by
  refine eq_bt (n := n) (rev_lt _ _) (rev_lt _ _) fun k hk => ?_
  rw [bt_rev _ _ _ hk, bt_rev _ _ _ hk, bt_mod (by omega)]
theorem rev_div (v : Nat) : ∀ (d n : Nat), rev v (n + d) / 2 ^ d = rev v n
  | 0, n => by simp
  | d + 1, n => by
    have := bt_lt v (n + d)
    rw [show n + (d + 1) = (n + d) + 1 by omega, rev, Nat.pow_succ, Nat.mul_comm (2 ^ d) 2, ← Nat.div_div_eq_div_mul, show (2 * rev v (n + d) + bt v (n + d)) / 2 = rev v (n + d) by omega, rev_div v d n]
/-- The words ahead of a code, of 20 bits. -/
def hS : List Nat → Nat → Nat → Nat
  | [], _, _ => 0
  | l :: r, n, i => (if l < n then 2 ^ (20 - l) else if l = n ∧ 0 < i then 2 ^ (20 - l) else 0) + hS r n (i - 1)
theorem nx_hS : ∀ {l : List Nat} {n : Nat} (i : Nat), n ≤ 20 → nx l n i * 2 ^ (20 - n) = hS l n i
  | [], n, i, _ => by simp [nx, hS]
  | x :: r, n, i, h => by
    simp only [nx, hS, Nat.add_mul, nx_hS (l := r) (i - 1) h]
    congr 1
    by_cases h1 : x < n
    · rw [if_pos h1, if_pos h1, ← Nat.pow_add, show n - x + (20 - n) = 20 - x by omega]
    · rw [if_neg h1, if_neg h1]
      by_cases h2 : x = n ∧ 0 < i
      · rw [if_pos h2, if_pos h2, h2.1, Nat.one_mul]
      · rw [if_neg h2, if_neg h2, Nat.zero_mul]
theorem hS_succ : ∀ {l : List Nat} {n i : Nat}, i < l.length → hS l n (i + 1) = hS l n i + (if l.getD i 0 = n then 2 ^ (20 - n) else 0)
  | [], n, i, h => by simp at h
  | x :: r, n, 0, h => by
    simp only [hS, List.getD_cons_zero, Nat.zero_add, Nat.sub_self, Nat.zero_sub]
    by_cases h1 : x < n
    · rw [if_pos h1, if_pos h1, if_neg (by omega)]; omega
    · rw [if_neg h1, if_neg h1]
      by_cases h2 : x = n
      · simp [h2]; omega
      · simp [h2]
  | x :: r, n, i + 1, h => by
    have ih := hS_succ (l := r) (n := n) (i := i) (by simpa using h)
    simp only [hS, List.getD_cons_succ, Nat.add_sub_cancel, ih]
    by_cases h1 : x < n
    · rw [if_pos h1, if_pos h1]; omega
    · rw [if_neg h1, if_neg h1]
      simp
      omega
theorem hS_mono : ∀ (l : List Nat) {n i n' i' : Nat}, n < n' ∨ (n = n' ∧ i ≤ i') → hS l n i ≤ hS l n' i'
  | [], _, _, _, _, _ => Nat.le_refl _
  | x :: r, n, i, n', i', h => by
    have ih := hS_mono r (n := n) (i := i - 1) (n' := n') (i' := i' - 1) (by omega)
    simp only [hS]
    by_cases h1 : x < n
    · rw [if_pos h1, if_pos (by omega)]; omega
    · rw [if_neg h1]
      by_cases h2 : x = n ∧ 0 < i
      · rw [if_pos h2]
        by_cases h3 : x < n'
        · rw [if_pos h3]; omega
        · rw [if_neg h3, if_pos (by omega)]; omega
      · rw [if_neg h2]; omega
theorem hS_next : ∀ (l : List Nat) (n : Nat), hS l (n + 1) 0 = hS l n l.length
  | [], n => rfl
  | x :: r, n => by
    have ih := hS_next r n
    simp only [hS, List.length_cons, Nat.add_sub_cancel, Nat.zero_sub, ih]
    by_cases h : x < n
    · rw [if_pos (by omega), if_pos h]
    · by_cases h2 : x = n
      · rw [if_pos (by omega), if_neg h, if_pos ⟨h2, by omega⟩]
      · rw [if_neg (by omega), if_neg (by omega), if_neg h, if_neg (by omega)]
theorem hS_all : ∀ {l : List Nat}, (∀ x ∈ l, x ≤ 20) → hS l 21 0 = kraft l
  | [], _ => rfl
  | x :: r, h => by
    simp only [hS, kraft, Nat.zero_sub, hS_all (l := r) fun y hy => h y (List.mem_cons_of_mem _ hy)]
    rw [if_pos (by have := h x List.mem_cons_self; omega)]
theorem hS_none : ∀ (l : List Nat), hS l 0 0 = 0
  | [] => rfl
  | x :: r => by simp [hS, hS_none r]
/-- A word stands in one of the codes' ranges. -/
theorem hS_row {l : List Nat} {n w : Nat} (hl : hS l n 0 ≤ w) : ∀ k, k ≤ l.length → w < hS l n k → ∃ i, i < k ∧ l.getD i 0 = n ∧ hS l n i ≤ w ∧ w < hS l n i + 2 ^ (20 - n)
  | 0, _, h => by omega
  | k + 1, hk, h => by
    by_cases h1 : w < hS l n k
    · obtain ⟨i, h2, h3⟩ := hS_row hl k (by omega) h1
      exact ⟨i, by omega, h3⟩
    · rw [hS_succ (by omega)] at h
      by_cases h2 : l.getD k 0 = n
      · rw [if_pos h2] at h
        exact ⟨k, by omega, h2, by omega, h⟩
      · rw [if_neg h2] at h; omega
theorem hS_col {l : List Nat} {w : Nat} : ∀ n, w < hS l n 0 → ∃ i n', i < l.length ∧ l.getD i 0 = n' ∧ hS l n' i ≤ w ∧ w < hS l n' i + 2 ^ (20 - n')
  | 0, h => by rw [hS_none] at h; omega
  | n + 1, h => by
    by_cases h1 : w < hS l n 0
    · exact hS_col n h1
    · rw [hS_next] at h
      obtain ⟨i, h2, h3⟩ := hS_row (by omega) l.length (Nat.le_refl _) h
      exact ⟨i, n, h2, h3⟩
/-- The code i stands ahead of the word v, whose lowest bit is the first. -/
def hit (lens : List Nat) (v i : Nat) : Prop := v % 2 ^ lens.getD i 0 = rev (nx lens (lens.getD i 0) i) (lens.getD i 0)
instance (lens : List Nat) (v i : Nat) : Decidable (hit lens v i) := inferInstanceAs (Decidable (_ = _))
theorem getD_mem {l : List Nat} {i : Nat} (h : i < l.length) : l.getD i 0 ∈ l := by
  rw [List.getD_eq_getElem?_getD, List.getElem?_eq_getElem h]; exact List.getElem_mem h
theorem nx_lt {lens : List Nat} (hg : Good lens) {i : Nat} (h : i < lens.length) : nx lens (lens.getD i 0) i < 2 ^ lens.getD i 0 := by
  have hn := hg.pos _ (getD_mem h)
  have h1 := nx_succ lens (lens.getD i 0) i h
  rw [if_pos rfl] at h1
  have h2 := nx_bound hg (n := lens.getD i 0) (i := i + 1) hn.2
  omega
theorem hit_iff {lens : List Nat} (hg : Good lens) {v i : Nat} (h : i < lens.length) : hit lens v i ↔ hS lens (lens.getD i 0) i ≤ rev v 20 ∧ rev v 20 < hS lens (lens.getD i 0) i + 2 ^ (20 - lens.getD i 0) := by
  have hn := hg.pos _ (getD_mem h)
  have hc := nx_lt hg h
  have hs := nx_hS (l := lens) (n := lens.getD i 0) i hn.2
  have hd := rev_div v (20 - lens.getD i 0) (lens.getD i 0)
  rw [show lens.getD i 0 + (20 - lens.getD i 0) = 20 by omega] at hd
  have hp : 0 < 2 ^ (20 - lens.getD i 0) := Nat.pow_pos (by decide)
  unfold hit
  generalize lens.getD i 0 = n at *
  have key : v % 2 ^ n = rev (nx lens n i) n ↔ rev v n = nx lens n i := by
    constructor
    · intro h1
      rw [← rev_mod, h1, rev_rev hc]
    · intro h1
      have h2 := rev_rev (c := v % 2 ^ n) (n := n) (Nat.mod_lt _ (Nat.pow_pos (by decide)))
      rw [rev_mod] at h2
      rw [← h1, h2]
  rw [key, ← hd, ← hs]
  generalize 2 ^ (20 - n) = p at *
  generalize nx lens n i = c at *
  constructor
  · intro h1
    subst h1
    have h2 := Nat.div_add_mod (rev v 20) p
    have h3 := Nat.mod_lt (rev v 20) hp
    rw [Nat.mul_comm]
    omega
  · rintro ⟨h1, h2⟩
    refine Nat.div_eq_of_lt_le h1 ?_
    rw [Nat.add_mul, Nat.one_mul]; omega
theorem hit_one {lens : List Nat} (hg : Good lens) {v i j : Nat} (hi : i < lens.length) (hj : j < lens.length) (h1 : hit lens v i) (h2 : hit lens v j) : i = j := by
  rw [hit_iff hg hi] at h1
  rw [hit_iff hg hj] at h2
  have far : ∀ {a b : Nat}, a < lens.length → lens.getD a 0 < lens.getD b 0 ∨ (lens.getD a 0 = lens.getD b 0 ∧ a < b) → hS lens (lens.getD a 0) a + 2 ^ (20 - lens.getD a 0) ≤ hS lens (lens.getD b 0) b := by
    intro a b ha h
    have := hS_succ (l := lens) (n := lens.getD a 0) ha
    rw [if_pos rfl] at this
    rw [← this]
    exact hS_mono lens (by omega)
  by_cases h : i = j
  · exact h
  · exfalso
    rcases Nat.lt_trichotomy (lens.getD i 0) (lens.getD j 0) with h3 | h3 | h3
    · have := far hi (.inl h3); omega
    · by_cases h4 : i < j
      · have := far hi (.inr ⟨h3, h4⟩); omega
      · have := far hj (.inr ⟨h3.symm, by omega⟩); omega
    · have := far hj (.inl h3); omega
theorem hit_some {lens : List Nat} (hg : Good lens) (v : Nat) : ∃ i, i < lens.length ∧ hit lens v i := by
  have h1 : rev v 20 < hS lens 21 0 := by
    rw [hS_all fun x hx => (hg.pos x hx).2, hg.whole]; exact rev_lt v 20
  obtain ⟨i, n, h2, rfl, h3⟩ := hS_col 21 h1
  exact ⟨i, h2, (hit_iff hg h2).2 h3⟩
/-- The code that stands ahead of a word. -/
def cd (lens : List Nat) (v : Nat) : Nat := ((List.range lens.length).find? fun i => decide (hit lens v i)).getD 0
theorem cd_hit {lens : List Nat} (hg : Good lens) (v : Nat) : cd lens v < lens.length ∧ hit lens v (cd lens v) := by
  obtain ⟨i, h1, h2⟩ := hit_some hg v
  unfold cd
  cases h : (List.range lens.length).find? fun i => decide (hit lens v i) with
  | none =>
    have := List.find?_eq_none.1 h i (List.mem_range.2 h1)
    simp [h2] at this
  | some j =>
    exact ⟨List.mem_range.1 (List.mem_of_find?_eq_some h), by simpa using List.find?_some h⟩
theorem cd_eq {lens : List Nat} (hg : Good lens) {v i : Nat} (h1 : i < lens.length) (h2 : hit lens v i) : cd lens v = i :=
  hit_one hg (cd_hit hg v).1 h1 (cd_hit hg v).2 h2
/-- The length of the code that stands ahead. -/
def cl (lens : List Nat) (v : Nat) : Nat := lens.getD (cd lens v) 0
theorem cl_pos {lens : List Nat} (hg : Good lens) (v : Nat) : 1 ≤ cl lens v ∧ cl lens v ≤ 20 := hg.pos _ (getD_mem (cd_hit hg v).1)
/-- Words that begin alike have the same code. -/
theorem cd_same {lens : List Nat} (hg : Good lens) {v w : Nat} (h : v % 2 ^ cl lens v = w % 2 ^ cl lens v) : cd lens w = cd lens v := by
  obtain ⟨h1, h2⟩ := cd_hit hg v
  exact cd_eq hg h1 (by unfold hit at h2 ⊢; exact h.symm.trans h2)
/-- The code that stands ahead of bits. -/
def symM (lens : List Nat) (B : List Nat) : Option Nat := if cl lens (numL B) ≤ B.length then some (cd lens (numL B)) else none
structure RIt where
  k : Int
  v : Nat
  s : List Nat
inductive Stp1 where
  | bad
  | stop
  | got (it : RIt) (n : Nat)
/-- One part that is read: B the bits that are left, bs the bytes that are left (where the bits are whole bytes). -/
def stepM (lens extra : List Nat) (bs : List Nat) (B : List Nat) (p : Pt) : Stp1 :=
  if p.kind = 0 then (if B.length < p.n.toNat then .stop else .got ⟨0, numL (B.take p.n.toNat), []⟩ p.n.toNat)
  else if p.kind = 1 then (match symM lens B with
    | none => .stop
    | some i => .got ⟨1, i, []⟩ (lens.getD i 0))
  else if p.kind = 2 then (match symM lens B with
    | none => .stop
    | some i => if extra.length ≤ i then .bad else
        if B.length - lens.getD i 0 < extra.getD i 0 then .stop
        else .got ⟨2, ((rgL 0 extra).getD i ⟨0, 0⟩).base.toNat + numL ((B.drop (lens.getD i 0)).take (extra.getD i 0)), []⟩ (lens.getD i 0 + extra.getD i 0))
  else if p.kind = 3 then .got ⟨3, numL (B.take (B.length % 8)), []⟩ (B.length % 8)
  else if p.kind = 4 then (if B.length % 8 ≠ 0 then .bad else if B.length / 8 < p.n.toNat then .stop
    else .got ⟨4, 0, (bs.drop (bs.length - B.length / 8)).take p.n.toNat⟩ (8 * p.n.toNat))
  else .bad
/-- All parts: what was read; whether it stopped; how many bits are left. -/
def readM (lens extra bs : List Nat) : List Pt → List Nat → Bool → Option (List RIt × Bool × Nat)
  | [], B, _ => some ([], false, B.length)
  | p :: r, B, pb => if p.kind ≠ 4 ∧ pb = true then none else match stepM lens extra bs B p with
    | .bad => none
    | .stop => some ([], true, B.length)
    | .got it n => match readM lens extra bs r (B.drop n) (decide (p.kind = 4)) with
      | none => none
      | some (l, st, q) => some (it :: l, st, q)
theorem numL_lt : ∀ {B : List Nat}, (∀ b ∈ B, b < 2) → numL B < 2 ^ B.length
  | [], _ => by simp [numL]
  | b :: r, h => by
    have := numL_lt (B := r) fun x hx => h x (List.mem_cons_of_mem _ hx)
    have := h b List.mem_cons_self
    simp only [numL, List.length_cons, Nat.pow_succ]
    omega
theorem numL_app : ∀ (A B : List Nat), numL (A ++ B) = numL A + 2 ^ A.length * numL B
  | [], B => by simp [numL]
  | a :: A, B => by
    simp only [List.cons_append, numL, numL_app A B, List.length_cons, Nat.pow_succ]
    rw [Nat.mul_add, ← Nat.mul_assoc, Nat.mul_comm 2 (2 ^ A.length)]
    omega
theorem numL_take {B : List Nat} (h : ∀ b ∈ B, b < 2) {n : Nat} (hn : n ≤ B.length) : numL (B.take n) = numL B % 2 ^ n := by
  have h1 := numL_app (B.take n) (B.drop n)
  rw [List.take_append_drop, List.length_take, Nat.min_eq_left hn] at h1
  have h2 := numL_lt (B := B.take n) fun b hb => h b (List.mem_of_mem_take hb)
  rw [List.length_take, Nat.min_eq_left hn] at h2
  rw [h1, Nat.add_mul_mod_self_left, Nat.mod_eq_of_lt h2]
theorem numL_drop {B : List Nat} (h : ∀ b ∈ B, b < 2) {n : Nat} (hn : n ≤ B.length) : numL (B.drop n) = numL B / 2 ^ n := by
  have h1 := numL_app (B.take n) (B.drop n)
  rw [List.take_append_drop, List.length_take, Nat.min_eq_left hn] at h1
  have h2 := numL_lt (B := B.take n) fun b hb => h b (List.mem_of_mem_take hb)
  rw [List.length_take, Nat.min_eq_left hn] at h2
  rw [h1, Nat.add_mul_div_left _ _ (Nat.pow_pos (by decide)), Nat.div_eq_of_lt h2, Nat.zero_add]
theorem numL_snoc {B : List Nat} {n b : Nat} (h : B[n]? = some b) : numL (B.take (n + 1)) = numL (B.take n) + 2 ^ n * b := by
  have hn := (List.getElem?_eq_some_iff.1 h).1
  rw [take_succ h, numL_app, List.length_take, Nat.min_eq_left (by omega)]
  simp [numL]
theorem numL_bt : ∀ {B : List Nat} {n b : Nat}, (∀ b ∈ B, b < 2) → B[n]? = some b → bt (numL B) n = b
  | [], _, _, _, h => by simp at h
  | a :: r, 0, b, hb, h => by
    obtain rfl : a = b := by simpa using h
    have := hb a List.mem_cons_self
    rw [numL, Nat.add_comm, bt_zero this]
  | a :: r, n + 1, b, hb, h => by
    have := hb a List.mem_cons_self
    rw [numL, Nat.add_comm, bt_next this]
    exact numL_bt (fun x hx => hb x (List.mem_cons_of_mem _ hx)) (by simpa using h)
theorem byteBits_len (big : Bool) (v : Nat) : (byteBits big v).length = 8 := by simp [byteBits]
theorem byteBits_lt (big : Bool) (v : Nat) : ∀ b ∈ byteBits big v, b < 2 := by
  intro b hb
  simp only [byteBits, List.mem_map] at hb
  obtain ⟨k, _, rfl⟩ := hb
  exact bt_lt _ _
theorem bitsOf_cons (big : Bool) (b : Nat) (r : List Nat) : bitsOf big (b :: r) = byteBits big b ++ bitsOf big r := rfl
theorem bitsOf_app (big : Bool) (a b : List Nat) : bitsOf big (a ++ b) = bitsOf big a ++ bitsOf big b := by simp [bitsOf]
theorem bitsOf_len (big : Bool) : ∀ bs : List Nat, (bitsOf big bs).length = 8 * bs.length
  | [] => rfl
  | b :: r => by rw [bitsOf_cons, List.length_append, byteBits_len, bitsOf_len big r, List.length_cons]; omega
theorem bitsOf_lt (big : Bool) (bs : List Nat) : ∀ b ∈ bitsOf big bs, b < 2 := by
  intro b hb
  simp only [bitsOf, List.mem_flatMap] at hb
  obtain ⟨x, _, h⟩ := hb
  exact byteBits_lt big x b h
end Pc
/-
  Contracts of the reference's reading.
-/
set_option linter.unusedVariables false
set_option maxRecDepth 100000
open Go Go.Vg Go.Proofs
namespace Pc
/-! unpacked -/
def c48 : Ctr TT where
  X := Fz × Rel TT × Value × List Nat × Bool
  find a H := match a, H with
    | [.ro 5 x l, .v (.bool big)], [.F m, .R rel] => some (m, rel, x, nats l, big)
    | _, _ => none
  phi x := (∀ n ∈ x.2.2.2.1, n < 256) ∧ x.2.2.2.1.length ≤ 1000000
  args x := [.ro 5 x.2.2.1 (ints x.2.2.2.1), bv x.2.2.2.2]
  H x := fr2 x.1 x.2.1
  outs := [{ Y := fun _ => Value, psi := fun _ _ => True, res := fun x y => .ro 5 y (ints (bitsOf x.2.2.2.2 x.2.2.2.1)), H := fun x _ => fr2 x.1 x.2.1 }]
noncomputable def a48 (bs : List Nat) (big : Bool) : Ann TT := fun r S => cond (Nat.beq r 3) (some {
    pre := [.own 5 5]
    X := Nat × Value
    phi := fun x => x.1 ≤ bs.length
    fr := fun x => [(5, .o 2 5 x.2 (8 * x.1)), (6, iv .i64 x.1)]
    H := fun x => [(2, .O x.2 5 (ints (bitsOf big (bs.take x.1))))]
    mu := fun x => bs.length - x.1 }) (cond (Nat.beq r 6) (match S.get 6 with
      | some (.v (.int _ ii)) => some {
        X := Nat × Value
        phi := fun x => x.1 ≤ 8
        fr := fun x => [(5, .o 2 5 x.2 (8 * ii.toNat + x.1)), (7, iv .u64 x.1)]
        H := fun x => [(2, .O x.2 5 (ints (bitsOf big (bs.take ii.toNat) ++ (byteBits big (bs.getD ii.toNat 0)).take x.1)))]
        mu := fun x => 8 - x.1 }
      | _ => none) none)
/-! number -/
structure XB where
  m : Fz
  rel : Rel TT
  b : Nat
  v : Value
  B : List Nat
def c49 : Ctr TT where
  X := XB × Nat
  find a H := match a, H with
    | [.p 2 _ (.lit 0), .v (.int .u64 n)], [.F m, .R rel, .B b 91 [.c (.ro 5 x l)]] => some (⟨m, rel, b, x, nats l⟩, n.toNat)
    | _, _ => none
  phi x := (∀ b ∈ x.1.B, b < 2) ∧ x.1.B.length ≤ 8000000 ∧ x.2 ≤ 64
  args x := [.p 2 x.1.b (.lit 0), iv .u64 x.2]
  H x := [.F x.1.m, .R x.1.rel, .B x.1.b 91 [.c (.ro 5 x.1.v (ints x.1.B))]]
  outs := [
    { Y := fun _ => Unit, psi := fun x _ => x.1.B.length < x.2, res := fun x _ => .t [iv .u64 0, bv false], H := fun x _ => [.F x.1.m, .R x.1.rel, .B x.1.b 91 [.c (.ro 5 x.1.v (ints x.1.B))]] },
    { Y := fun _ => Value, psi := fun x _ => x.2 ≤ x.1.B.length, res := fun x _ => .t [iv .u64 (numL (x.1.B.take x.2)), bv true], H := fun x y => [.F x.1.m, .R x.1.rel, .B x.1.b 91 [.c (.ro 5 y (ints (x.1.B.drop x.2)))]] }]
noncomputable def a49 (B : List Nat) (n : Nat) : Ann TT := fun r S => cond (Nat.beq r 5) (some {
    X := Nat
    phi := fun i => i ≤ n
    fr := fun i => [(6, iv .u64 (numL (B.take i))), (7, iv .u64 i)]
    H := fun i => []
    mu := fun i => n - i }) none
/-! symbol -/
def c50 : Ctr TT where
  X := XB × Value × List Nat
  find a H := match a, H with
    | [.p 2 _ (.lit 0), .ro 90 y k], [.F m, .R rel, .B b 91 [.c (.ro 5 x l)]] => some (⟨m, rel, b, x, nats l⟩, y, lensOf k)
    | _, _ => none
  phi x := (∀ b ∈ x.1.B, b < 2) ∧ x.1.B.length ≤ 8000000 ∧ Good x.2.2
  args x := [.p 2 x.1.b (.lit 0), .ro 90 x.2.1 (canonL x.2.2)]
  H x := [.F x.1.m, .R x.1.rel, .B x.1.b 91 [.c (.ro 5 x.1.v (ints x.1.B))]]
  outs := [
    { Y := fun _ => Unit, psi := fun x _ => symM x.2.2 x.1.B = none, res := fun x _ => .t [iv .u64 0, bv false], H := fun x _ => [.F x.1.m, .R x.1.rel, .B x.1.b 91 [.c (.ro 5 x.1.v (ints x.1.B))]] },
    { Y := fun _ => Value, psi := fun x _ => symM x.2.2 x.1.B = some (cd x.2.2 (numL x.1.B)), res := fun x _ => .t [iv .u64 (cd x.2.2 (numL x.1.B)), bv true],
      H := fun x y => [.F x.1.m, .R x.1.rel, .B x.1.b 91 [.c (.ro 5 y (ints (x.1.B.drop (cl x.2.2 (numL x.1.B)))))]] }]
noncomputable def a50 (B lens : List Nat) : Ann TT := fun r S => cond (Nat.beq r 3) (some {
    X := Nat
    phi := fun n => 1 ≤ n ∧ n ≤ 21 ∧ n ≤ B.length + 1 ∧ n ≤ cl lens (numL B)
    fr := fun n => [(6, iv .u32 (numL (B.take (n - 1)))), (7, iv .u32 n)]
    H := fun n => []
    mu := fun n => 21 - n }) (cond (Nat.beq r 7) (match S.get 7 with
      | some (.v (.int _ nn)) => some {
        X := Nat
        phi := fun i => i ≤ lens.length ∧ (cl lens (numL B) = nn.toNat → i ≤ cd lens (numL B))
        fr := fun i => [(8, iv .i64 i)]
        H := fun i => []
        mu := fun i => lens.length - i }
      | _ => none) none)
end Pc
/-
  The contract of the reference's ReadAll.
-/
set_option linter.unusedVariables false
set_option maxRecDepth 100000
open Go Go.Vg Go.Proofs
namespace Pc
/-- A part that was read: in the model, and in a row. -/
def itOK (rel : Rel TT) (it : RIt) (p : Pt) : Prop := p.kind = it.k ∧ p.v = (it.v : Int) ∧ isRo rel 5 p.s.val (ints it.s)
def itsOK (rel : Rel TT) : List RIt → List Pt → Prop
  | [], [] => True
  | a :: r, p :: q => itOK rel a p ∧ itsOK rel r q
  | _, _ => False
def pb (l : List Pt) : Nat → Bool
  | 0 => false
  | i + 1 => match l[i]? with
    | some p => decide (p.kind = 4)
    | none => false
def pref (its : List RIt) : Option (List RIt × Bool × Nat) → Option (List RIt × Bool × Nat)
  | none => none
  | some (a, st, q) => some (its ++ a, st, q)
structure XR where
  m : Fz
  rel : Rel TT
  vl : Value
  l : List Pt
  vc : Value
  lens : List Nat
  vr : Value
  extra : List Nat
  vs : Value
  bs : List Nat
  big : Bool
def xrOK (x : XR) : Prop := Good x.lens ∧ x.extra.length ≤ 30 ∧ (∀ n ∈ x.extra, n ≤ 20) ∧ (∀ n ∈ x.bs, n < 256) ∧ x.bs.length ≤ 300 ∧ lightB x.l ∧ ∀ p ∈ x.l, 0 ≤ p.n
def extraOf (l : List Rg) : List Nat := l.map fun c => c.len.toNat
structure Y20 where
  gv : Value
  gl : List Pt
  rel : Rel TT
  its : List RIt
  st : Bool
  left : Nat
structure ps20 (x : XR) (y : Y20) : Prop where
  run : readM x.lens x.extra x.bs x.l (bitsOf x.big x.bs) false = some (y.its, y.st, y.left)
  its : itsOK y.rel y.its y.gl
  rel : relLe x.rel y.rel
  left : y.left ≤ 8 * x.bs.length
  len : y.gl.length ≤ x.l.length
def bad20 (x : XR) : Prop := readM x.lens x.extra x.bs x.l (bitsOf x.big x.bs) false = none
def wrong (st : Bool) (n : Nat) : Int := if st = true then (n : Int) else -1
def c20 : Ctr TT where
  X := XR
  find a H := match a, H with
    | [.ro 36 vl l, .ro 90 vc k, .ro 97 vr r, .ro 5 vs bs, .v (.bool big)], [.F m, .R rel] => some ⟨m, rel, vl, l, vc, lensOf k, vr, extraOf r, vs, nats bs, big⟩
    | _, _ => none
  phi := xrOK
  args x := [.ro 36 x.vl x.l, .ro 90 x.vc (canonL x.lens), .ro 97 x.vr (rgL 0 x.extra), .ro 5 x.vs (ints x.bs), bv x.big]
  H x := fr2 x.m x.rel
  outs := [
    { Y := fun _ => Unit, psi := fun x _ => bad20 x, res := fun x _ => .t [nilV, iv .i64 0, iv .i64 0, bv false], H := fun x _ => fr2 x.m x.rel },
    { Y := fun _ => Y20
      psi := fun x y => ps20 x y
      res := fun x y => .t [.ro 36 y.gv y.gl, .v (.int .i64 (wrong y.st y.gl.length)), iv .i64 (8 * x.bs.length - y.left), bv true]
      H := fun x y => fr2 x.m y.rel }]
structure X20 where
  i : Nat
  gx : Value
  gl : List Pt
  rel : Rel TT
  its : List RIt
  B : List Nat
  w : Value
structure ph20 (x : XR) (y : X20) : Prop where
  i : y.i ≤ x.l.length
  rel : relLe x.rel y.rel
  its : itsOK y.rel y.its y.gl
  len : y.gl.length = y.i
  bit : ∀ b ∈ y.B, b < 2
  all : y.B.length ≤ 8 * x.bs.length
  run : readM x.lens x.extra x.bs x.l (bitsOf x.big x.bs) false = pref y.its (readM x.lens x.extra x.bs (x.l.drop y.i) y.B (pb x.l y.i))
noncomputable def a20 (x : XR) : Ann TT := fun r S => cond (Nat.beq r 4) (match S.H with
    | [_, _, .B b _ _] => some {
      pre := [.own 10 36]
      X := X20
      phi := fun y => ph20 x y
      fr := fun y => [(10, .o 3 36 y.gx y.gl.length), (16, iv .i64 y.i)]
      H := fun y => [(1, .R y.rel), (2, .B b 91 [.c (.ro 5 y.w (ints y.B))]), (3, .O y.gx 36 y.gl)]
      mu := fun y => x.l.length - y.i }
    | _ => none) (cond (Nat.beq r 5009) (match S.get 16, S.get 10, S.H with
      | some (.v (.int _ i)), some g, [_, _, _, _, .B _ _ (.c (.v (.int _ k)) :: _)] => some {
        X := Unit
        phi := fun _ => pb x.l i.toNat = true → k = 4
        fr := fun _ => [(10, g)]
        H := fun _ => []
        mu := fun _ => 0 }
      | _, _, _ => none) none)
noncomputable def b20 : Nat → Option (PT TT)
  | 48 => some (loc [some 5, none] c48.pt)
  | 49 => some (loc [none, none] c49.pt)
  | 50 => some (loc [none, some 90] c50.pt)
  | _ => none
theorem pb_next {l : List Pt} {i : Nat} {p : Pt} (h : l[i]? = some p) : pb l (i + 1) = decide (p.kind = 4) := by simp [pb, h]
theorem drop_at {α : Type} {l : List α} {i : Nat} {p : α} (h : l[i]? = some p) : l.drop i = p :: l.drop (i + 1) := by
  obtain ⟨h1, rfl⟩ := List.getElem?_eq_some_iff.1 h
  exact (List.getElem_cons_drop h1).symm
theorem pref_pref (a b : List RIt) (x : Option (List RIt × Bool × Nat)) : pref a (pref b x) = pref (a ++ b) x := by
  rcases x with _ | ⟨l, st, q⟩ <;> simp [pref]
theorem itsOK_len {rel : Rel TT} : ∀ {a : List RIt} {b : List Pt}, itsOK rel a b → a.length = b.length
  | [], [], _ => rfl
  | _ :: a, _ :: b, h => by simp [itsOK_len h.2]
  | [], _ :: _, h => h.elim
  | _ :: _, [], h => h.elim
theorem itOK_mono {r r' : Rel TT} (h : relLe r r') {a : RIt} {p : Pt} (k : itOK r a p) : itOK r' a p := by
  obtain ⟨k1, k2, k3⟩ := k
  refine ⟨k1, k2, ?_⟩
  rcases k3 with k3 | k3
  · exact .inl (h _ _ _ k3)
  · exact .inr k3
theorem itsOK_mono {r r' : Rel TT} (h : relLe r r') : ∀ {a : List RIt} {b : List Pt}, itsOK r a b → itsOK r' a b
  | [], [], _ => trivial
  | _ :: a, _ :: b, k => ⟨itOK_mono h k.1, itsOK_mono h k.2⟩
  | [], _ :: _, h => h.elim
  | _ :: _, [], h => h.elim
theorem itsOK_snoc {r : Rel TT} {it : RIt} {p : Pt} (h : itOK r it p) : ∀ {a : List RIt} {b : List Pt}, itsOK r a b → itsOK r (a ++ [it]) (b ++ [p])
  | [], [], _ => ⟨h, trivial⟩
  | _ :: a, _ :: b, k => ⟨k.1, itsOK_snoc h k.2⟩
  | [], _ :: _, h => h.elim
  | _ :: _, [], h => h.elim
theorem ph20_step {x : XR} {y : X20} (h : ph20 x y) {p : Pt} (hp : x.l[y.i]? = some p) (hpb : pb x.l y.i = true → p.kind = 4) :
    readM x.lens x.extra x.bs x.l (bitsOf x.big x.bs) false = pref y.its (match stepM x.lens x.extra x.bs y.B p with
      | .bad => none
      | .stop => some ([], true, y.B.length)
      | .got it n => pref [it] (readM x.lens x.extra x.bs (x.l.drop (y.i + 1)) (y.B.drop n) (pb x.l (y.i + 1)))) := by
  rw [h.run, drop_at hp, readM, if_neg (by rintro ⟨h1, h2⟩; exact h1 (hpb h2)), pb_next hp]
  cases stepM x.lens x.extra x.bs y.B p with
  | bad => rfl
  | stop => rfl
  | got it n =>
    dsimp only
    rcases readM x.lens x.extra x.bs (x.l.drop (y.i + 1)) (y.B.drop n) (decide (p.kind = 4)) with _ | ⟨a, st, q⟩ <;> rfl
theorem ph20_next {x : XR} {y : X20} (h : ph20 x y) {p : Pt} (hp : x.l[y.i]? = some p) (hpb : pb x.l y.i = true → p.kind = 4) {it : RIt} {n : Nat} (hs : stepM x.lens x.extra x.bs y.B p = .got it n)
    {gx w : Value} {rel : Rel TT} {q : Pt} (hr : relLe y.rel rel) (hq : itOK rel it q) : ph20 x ⟨y.i + 1, gx, y.gl ++ [q], rel, y.its ++ [it], y.B.drop n, w⟩ where
  i := (List.getElem?_eq_some_iff.1 hp).1
  rel := h.rel.trans hr
  its := itsOK_snoc hq (itsOK_mono hr h.its)
  len := by simp [h.len]
  bit := fun b hb => h.bit b (List.mem_of_mem_drop hb)
  all := by have := h.all; simp only [List.length_drop]; omega
  run := by rw [ph20_step h hp hpb, hs]; exact pref_pref _ _ _
theorem ph20_stop {x : XR} {y : X20} (h : ph20 x y) {p : Pt} (hp : x.l[y.i]? = some p) (hpb : pb x.l y.i = true → p.kind = 4) (hs : stepM x.lens x.extra x.bs y.B p = .stop)
    {gv : Value} {rel : Rel TT} (hr : relLe y.rel rel) : ps20 x ⟨gv, y.gl, rel, y.its, true, y.B.length⟩ where
  run := by rw [ph20_step h hp hpb, hs]; simp [pref]
  its := itsOK_mono hr h.its
  rel := h.rel.trans hr
  left := h.all
  len := by have := h.len; have := h.i; dsimp only; omega
theorem ph20_end {x : XR} {y : X20} (h : ph20 x y) (hi : y.i = x.l.length) {gv : Value} : ps20 x ⟨gv, y.gl, y.rel, y.its, false, y.B.length⟩ where
  run := by rw [h.run, hi, List.drop_length, readM]; simp [pref]
  its := h.its
  rel := h.rel
  left := h.all
  len := by have := h.len; dsimp only; omega
theorem ph20_bad {x : XR} {y : X20} (h : ph20 x y) {p : Pt} (hp : x.l[y.i]? = some p) (hpb : pb x.l y.i = true → p.kind = 4) (hs : stepM x.lens x.extra x.bs y.B p = .bad) : bad20 x := by
  unfold bad20; rw [ph20_step h hp hpb, hs]; rfl
theorem ph20_behind {x : XR} {y : X20} (h : ph20 x y) {p : Pt} (hp : x.l[y.i]? = some p) (hpb : pb x.l y.i = true) (hk : p.kind ≠ 4) : bad20 x := by
  unfold bad20; rw [h.run, drop_at hp, readM, if_pos ⟨hk, hpb⟩]; rfl
theorem lensOf_canon (l : List Nat) : lensOf (canonL l) = l := by
  unfold lensOf canonL
  refine List.ext_getElem? fun j => ?_
  rw [List.getElem?_map, List.getElem?_mapIdx]
  cases l[j]? <;> simp
end Pc
/-
  Contracts of the sources that are read: bytes.Reader, bytesReader.
-/
set_option linter.unusedVariables false
set_option maxRecDepth 100000
open Go Go.Vg Go.Proofs
namespace Pc
/-- The context in which raw slices of bytes are parts of the row of entry h. -/
noncomputable def CH (G : Gl) (h : Nat) : Ctx TT := { CC G with hintP := fun t => cond (Nat.beq t 23) (some (h, 3)) none }
theorem spec_CH {G : Gl} {h f : Nat} {pt : PT TT} (hs : SpecOK (CC G) f pt) : SpecOK (CH G h) f pt := ⟨hs.enters, fun args H K Kp w hp hI => by
  have := hs.calls args H K Kp w hp ⟨⟨hI.1.ents, hI.1.apart, hI.1.lt, hI.1.glob⟩, hI.2⟩
  refine this.mono ?_
  rintro e w' (⟨r, H', he, hk, hH', hr, hst⟩ | ⟨r, H', he, hk, hH', hr, hst⟩)
  · exact .inl ⟨r, H', he, hk, ⟨hH'.ents, hH'.apart, hH'.lt, hH'.glob⟩, hr, hst⟩
  · exact .inr ⟨r, H', he, hk, ⟨hH'.ents, hH'.apart, hH'.lt, hH'.glob⟩, hr, hst⟩⟩
theorem spec_CC {G : Gl} {h f : Nat} {pt : PT TT} (hs : SpecOK (CH G h) f pt) : SpecOK (CC G) f pt := ⟨hs.enters, fun args H K Kp w hp hI => by
  have := hs.calls args H K Kp w hp ⟨⟨hI.1.ents, hI.1.apart, hI.1.lt, hI.1.glob⟩, hI.2⟩
  refine this.mono ?_
  rintro e w' (⟨r, H', he, hk, hH', hr, hst⟩ | ⟨r, H', he, hk, hH', hr, hst⟩)
  · exact .inl ⟨r, H', he, hk, ⟨hH'.ents, hH'.apart, hH'.lt, hH'.glob⟩, hr, hst⟩
  · exact .inr ⟨r, H', he, hk, ⟨hH'.ents, hH'.apart, hH'.lt, hH'.glob⟩, hr, hst⟩⟩
noncomputable def INH (G : Gl) (h : Nat) (base : Nat → Option (PT TT)) (ann : Nat → Ann TT) : Nat → Option (PT TT) := inl (CH G h) base (bodyW ann) 12
/-- A contract from a function's text, with raw slices. -/
theorem specH (G : Gl) (hh : Nat) {base : Nat → Option (PT TT)} (hb : ∀ f pt, base f = some pt → SpecOK (CC G) f pt) {f : Nat} {fn : Func} (hf : fnOf f = some fn) (anns : Nat → Ann TT) (c : Ctr TT) (ann : c.X → Ann TT)
    (h : ∀ x, c.phi x → Met (fnx (CH G hh) (INH G hh base anns) (ann x) fn (c.args x) (c.H x) (outK true (c.H x).length (c.ret x)) (c.pan x))) : SpecOK (CC G) f c.pt := by
  obtain ⟨h1, h2, h3, h4⟩ := fnOf_ok G f fn hf
  refine spec_CC (h := hh) ?_
  have hz : ZOK (CH G hh) := zok G
  have hm : (CH G hh).P.follows .mixedOrders = true := mixed G
  exact ctr_okX hz (inl_ok hz hm (fun f pt h => spec_CH (hb f pt h)) (bodyW_ok G anns) 12) hm h1 h2 h3 h4 true c ann h
/-- A slice value that is nil, or the part of the block b's row (of 512 bytes, from 3 on) that holds the bytes from q on. -/
def vw (b : Nat) (arr : List Int) (bs : List Nat) (v : Value) (n q : Nat) : Prop :=
  (v = .slice none 0 0 ∧ n = 0) ∨ ∃ lo cap, v = .slice (some ⟨b, 3 + lo * 1, none⟩) n cap ∧ n ≤ cap ∧ lo + cap ≤ 512 ∧ q + n ≤ bs.length ∧ (arr.drop lo).take n = ints ((bs.drop q).take n)
theorem vw_nil (b : Nat) (arr : List Int) (bs : List Nat) (q : Nat) : vw b arr bs (.slice none 0 0) 0 q := .inl ⟨rfl, rfl⟩
theorem vw_cap {b : Nat} {arr : List Int} {bs : List Nat} {v : Value} {n q : Nat} (h : vw b arr bs v n q) : n ≤ capVal v := by
  rcases h with ⟨rfl, rfl⟩ | ⟨lo, cap, rfl, h, _⟩
  · exact Nat.zero_le _
  · exact h
theorem vw_end {b : Nat} {arr : List Int} {bs : List Nat} {v : Value} {n q : Nat} (h : vw b arr bs v n q) : n = 0 ∨ q + n ≤ bs.length := by
  rcases h with ⟨rfl, rfl⟩ | ⟨lo, cap, rfl, _, _, h, _⟩
  · exact .inl rfl
  · exact .inr h
theorem vw_sub {b : Nat} {arr : List Int} {bs : List Nat} {v : Value} {n q l u : Nat} (h : vw b arr bs v n q) (h1 : l ≤ u) (h2 : u ≤ n) : vw b arr bs (sliceVal v l u 1) (u - l) (q + l) := by
  rcases h with ⟨rfl, rfl⟩ | ⟨lo, cap, rfl, h3, h4, h5, h6⟩
  · have : u = 0 := by omega
    subst this
    have : l = 0 := by omega
    subst this
    exact .inl ⟨rfl, rfl⟩
  · refine .inr ?_
    by_cases hc : cap = l
    · subst hc
      have : u = cap := by omega
      subst this
      exact ⟨lo, 0, by simp [sliceVal], by omega, by omega, by omega, by simp [ints]⟩
    · refine ⟨lo + l, cap - l, ?_, by omega, by omega, by omega, ?_⟩
      · simp only [sliceVal, if_neg hc, Option.map_some, Addr.add]
        by_cases h0 : l * 1 = 0
        · rw [if_pos h0]; simp at h0; subst h0; simp
        · rw [if_neg h0]; simp; omega
      · have e1 : (arr.drop (lo + l)).take (u - l) = (((arr.drop lo).take n).drop l).take (u - l) := by
          rw [List.drop_take, List.drop_drop, List.take_take, Nat.min_eq_left (by omega)]
        have e2 : (bs.drop (q + l)).take (u - l) = (((bs.drop q).take n).drop l).take (u - l) := by
          rw [List.drop_take, List.drop_drop, List.take_take, Nat.min_eq_left (by omega)]
        rw [e1, e2, h6]
        simp [ints, List.map_drop, List.map_take]
theorem vw_at {b : Nat} {arr : List Int} {bs : List Nat} {v : Value} {n q q' : Nat} (h : vw b arr bs v n q) (hq : q = q') : vw b arr bs v n q' := hq ▸ h
theorem vw_zero {b : Nat} {arr arr' : List Int} {bs : List Nat} {v : Value} {q q' : Nat} (h : vw b arr bs v 0 q) (hq : q' ≤ bs.length) : vw b arr' bs v 0 q' := by
  rcases h with ⟨rfl, _⟩ | ⟨lo, cap, rfl, h3, h4, h5, h6⟩
  · exact .inl ⟨rfl, rfl⟩
  · exact .inr ⟨lo, cap, rfl, h3, h4, by omega, by simp [ints]⟩
structure RB where
  m : Fz
  rel : Rel TT
  bb : Nat
  sb : Nat
  pos : Nat
  bv : Value
  bn : Nat
  arr : List Int
  vs : Value
  bs : List Nat
  i : Nat
  prev : Int
def segB (h sb pos : Nat) (bv : Value) (bn : Nat) (arr : List Int) : List (Seg TT) := [.c (.p h sb (.lit 0)), .c (iv .i64 pos), .c (.w bv bn), .r 5 512 arr]
def segS (vs : Value) (bs : List Nat) (i : Nat) (prev : Int) : List (Seg TT) := [.c (.ro 5 vs (ints bs)), .c (iv .i64 i), .c (.v (.int .i64 prev))]
def RB.H (x : RB) : List (Ent TT) := [.F x.m, .R x.rel, .B x.bb 190 (segB 3 x.sb x.pos x.bv x.bn x.arr), .B x.sb 198 (segS x.vs x.bs x.i x.prev)]
def getRB : List (Ent TT) → Option RB
  | [.F m, .R rel, .B bb 190 [.c (.p 3 sb _), .c (.v (.int _ pos)), .c (.w bv bn), .r 5 512 arr], .B _ 198 [.c (.ro 5 vs l), .c (.v (.int _ i)), .c (.v (.int _ prev))]] => some ⟨m, rel, bb, sb, pos.toNat, bv, bn, arr, vs, nats l, i.toNat, prev⟩
  | _ => none
structure rbOK (x : RB) : Prop where
  arr : x.arr.length = 512
  pi : x.pos ≤ x.i
  il : x.i ≤ x.bs.length
  len : x.bs.length ≤ 300
  view : vw x.bb x.arr x.bs x.bv x.bn x.pos
/-- As update leaves it. -/
def c217 : Ctr TT where
  X := RB
  find a H := match a with
    | [.p 2 _ (.lit 0)] => getRB H
    | _ => none
  phi := rbOK
  args x := [.p 2 x.bb (.lit 0)]
  H x := x.H
  outs := [{ Y := fun _ => Value × Nat, psi := fun x y => y.2 = x.bn - (x.i - x.pos) ∧ vw x.bb x.arr x.bs y.1 y.2 x.i, res := fun _ _ => .t [], H := fun x y => RB.H { x with pos := x.i, bv := y.1, bn := y.2, prev := -1 } }]
def c212 : Ctr TT where
  X := RB
  find a H := match a with
    | [.p 2 _ (.lit 0)] => getRB H
    | _ => none
  phi := rbOK
  args x := [.p 2 x.bb (.lit 0)]
  H x := x.H
  outs := [{ Y := fun _ => Value × Nat, psi := fun x y => y.2 = x.bn - (x.i - x.pos) ∧ vw x.bb x.arr x.bs y.1 y.2 x.i, res := fun _ y => iv .i64 y.2, H := fun x y => RB.H { x with pos := x.i, bv := y.1, bn := y.2, prev := -1 } }]
def c213 : Ctr TT where
  X := RB × Nat
  find a H := match a with
    | [.p 2 _ (.lit 0), .v (.int .i64 n)] => match getRB H with
      | some x => some (x, n.toNat)
      | none => none
    | _ => none
  phi x := rbOK x.1 ∧ x.1.i + x.2 ≤ x.1.bs.length
  args x := [.p 2 x.1.bb (.lit 0), iv .i64 x.2]
  H x := x.1.H
  outs := [{ Y := fun _ => Unit, psi := fun x y => True, res := fun x y => .t [iv .i64 x.2, .v .nilIface], H := fun x y => RB.H { x.1 with i := x.1.i + x.2, prev := -1 } }]
structure Y214 where
  pv : Value
  bv : Value
  bn : Nat
  arr : List Int
structure pk214 (x : RB) (n pn : Nat) (y : Y214) : Prop where
  arr : y.arr.length = 512
  peek : vw x.bb y.arr x.bs y.pv pn x.i
  view : vw x.bb y.arr x.bs y.bv y.bn x.i
  more : pn ≤ y.bn
def c214 (G : Gl) : Ctr TT where
  X := RB × Nat
  find a H := match a with
    | [.p 2 _ (.lit 0), .v (.int .i64 n)] => match getRB H with
      | some x => some (x, n.toNat)
      | none => none
    | _ => none
  phi x := rbOK x.1 ∧ x.2 ≤ 512
  args x := [.p 2 x.1.bb (.lit 0), iv .i64 x.2]
  H x := x.1.H
  outs := [
    { Y := fun _ => Y214, psi := fun x y => x.2 ≤ x.1.bs.length - x.1.i ∧ pk214 x.1 x.2 x.2 y, res := fun x y => .t [.w y.pv x.2, .v .nilIface],
      H := fun x y => RB.H { x.1 with pos := x.1.i, bv := y.bv, bn := y.bn, arr := y.arr, prev := -1 } },
    { Y := fun _ => Y214, psi := fun x y => x.1.bs.length - x.1.i < x.2 ∧ pk214 x.1 x.2 (x.1.bs.length - x.1.i) y, res := fun x y => .t [.w y.pv (x.1.bs.length - x.1.i), .v (errV G.E)],
      H := fun x y => RB.H { x.1 with pos := x.1.i, bv := y.bv, bn := y.bn, arr := y.arr, prev := -1 } }]
def b217 : Nat → Option (PT TT)
  | 217 => some (loc [none] c217.pt)
  | _ => none
end Pc
/-
  Contracts of the reader of bits (over a bytes.Reader).
-/
set_option linter.unusedVariables false
set_option maxRecDepth 100000
open Go Go.Vg Go.Proofs
namespace Pc
/-! ReverseLUT -/
def c164 : Ctr TT where
  X := Fz × Rel TT × Nat
  find a H := match a, H with
    | [.v (.int .u8 n)], [.F m, .R rel] => some (m, rel, n.toNat)
    | _, _ => none
  phi x := x.2.2 < 256
  args x := [iv .u8 x.2.2]
  H x := fr2 x.1 x.2.1
  outs := [{ Y := fun _ => Unit, psi := fun _ _ => True, res := fun x _ => iv .u8 (numL (byteBits true x.2.2)), H := fun x _ => fr2 x.1 x.2.1 }]
theorem bt_div (v n k : Nat) : bt (v / 2 ^ n) k = bt v (n + k) := by
  unfold bt; rw [Nat.div_div_eq_div_mul, ← Nat.pow_add]
theorem bt_or (a b k : Nat) : bt (a ||| b) k = max (bt a k) (bt b k) := by
  rw [bt_test, bt_test, bt_test, Nat.testBit_or]
  cases a.testBit k <;> cases b.testBit k <;> rfl
theorem bt_shl (v n k : Nat) : bt (v * 2 ^ n) k = if n ≤ k then bt v (k - n) else 0 := by
  rw [bt_test, bt_test, Nat.mul_comm, Nat.testBit_two_pow_mul]
  by_cases h : n ≤ k
  · rw [if_pos h]; simp [h]
  · rw [if_neg h]; simp [h]
theorem bt_modp (v n k : Nat) : bt (v % 2 ^ n) k = if k < n then bt v k else 0 := by
  rw [bt_test, bt_test, Nat.testBit_mod_two_pow]
  by_cases h : k < n
  · rw [if_pos h]; simp [h]
  · rw [if_neg h]; simp [h]
theorem mod_bt {a b n : Nat} (h : ∀ k, k < n → bt a k = bt b k) : a % 2 ^ n = b % 2 ^ n := by
  refine eq_bt (n := n) (Nat.mod_lt _ (Nat.pow_pos (by decide))) (Nat.mod_lt _ (Nat.pow_pos (by decide))) fun k hk => ?_
  rw [bt_modp, bt_modp, if_pos hk, if_pos hk, h k hk]
theorem bitsOf_drop (big : Bool) : ∀ (q : Nat) (bs : List Nat), (bitsOf big bs).drop (8 * q) = bitsOf big (bs.drop q)
  | 0, bs => by simp
  | q + 1, [] => by simp [bitsOf]
  | q + 1, b :: r => by
    rw [bitsOf_cons, List.drop_succ_cons, ← bitsOf_drop big q r, show 8 * (q + 1) = 8 + 8 * q by omega, ← List.drop_drop]
    congr 1
theorem bitsOf_take (big : Bool) : ∀ (q : Nat) (bs : List Nat), (bitsOf big bs).take (8 * q) = bitsOf big (bs.take q)
  | 0, bs => by simp [bitsOf]
  | q + 1, [] => by simp [bitsOf]
  | q + 1, b :: r => by
    rw [bitsOf_cons, List.take_succ_cons, bitsOf_cons, ← bitsOf_take big q r, show 8 * (q + 1) = (byteBits big b).length + 8 * q by rw [byteBits_len]; omega, List.take_length_add_append]
theorem stream_drop (big : Bool) (bs : List Nat) {q : Nat} (h : q ≤ bs.length) : numL (bitsOf big bs) / 2 ^ (8 * q) = numL (bitsOf big (bs.drop q)) := by
  rw [← bitsOf_drop, numL_drop (bitsOf_lt _ _) (by rw [bitsOf_len]; omega)]
theorem stream_lt (big : Bool) (bs : List Nat) : numL (bitsOf big bs) < 2 ^ (8 * bs.length) := by
  have := numL_lt (bitsOf_lt big bs); rwa [bitsOf_len] at this
theorem byte_num : ∀ n : Fin 256, numL (byteBits false n.val) = n.val := by decide +kernel
theorem wd8_mod (big : Bool) (bs : List Nat) {q : Nat} (h : q + 8 ≤ bs.length) : numL (bitsOf big ((bs.drop q).take 8)) = numL (bitsOf big bs) / 2 ^ (8 * q) % 2 ^ 64 := by
  rw [stream_drop big bs (by omega), ← bitsOf_take, numL_take (bitsOf_lt _ _) (by rw [bitsOf_len, List.length_drop]; omega)]
theorem byte_mod (big : Bool) {bs : List Nat} {q c : Nat} (h : bs[q]? = some c) : numL (byteBits big c) = numL (bitsOf big bs) / 2 ^ (8 * q) % 2 ^ 8 := by
  have hq := (List.getElem?_eq_some_iff.1 h).1
  rw [stream_drop big bs (by omega)]
  have : bs.drop q = c :: bs.drop (q + 1) := by
    obtain ⟨h1, rfl⟩ := List.getElem?_eq_some_iff.1 h
    exact (List.getElem_cons_drop h1).symm
  have hlt := numL_lt (byteBits_lt big c)
  rw [byteBits_len] at hlt
  rw [this, bitsOf_cons, numL_app, byteBits_len, Nat.add_mul_mod_self_left, Nat.mod_eq_of_lt hlt]
/-- The bits at hand are the next ones; above them there is nothing else than the next ones. -/
structure bkOK (W bits num : Nat) : Prop where
  n : num ≤ 64
  lt : bits < 2 ^ 64
  low : ∀ k, k < num → bt bits k = bt W k
  up : ∀ k, bt bits k ≤ bt W k
theorem bk_more {W bits num V m : Nat} (h : bkOK W bits num) (hV : V = W / 2 ^ num % 2 ^ m) {m' : Nat} (hm : m' ≤ m) (h64 : num + m' ≤ 64) : bkOK W (bits ||| (V * 2 ^ num % 2 ^ 64)) (num + m') where
  n := h64
  lt := Nat.or_lt_two_pow h.lt (Nat.mod_lt _ (by decide))
  low := fun k hk => by
    rw [bt_or, bt_modp, if_pos (by omega), bt_shl]
    by_cases h1 : num ≤ k
    · rw [if_pos h1, hV, bt_modp, if_pos (by omega), bt_div, show num + (k - num) = k by omega]
      have := h.up k
      omega
    · rw [if_neg h1, h.low k (by omega)]; omega
  up := fun k => by
    have hu := h.up k
    rw [bt_or, bt_modp]
    by_cases h0 : k < 64
    · rw [if_pos h0, bt_shl]
      by_cases h1 : num ≤ k
      · rw [if_pos h1, hV, bt_modp]
        by_cases h2 : k - num < m
        · rw [if_pos h2, bt_div, show num + (k - num) = k by omega]; omega
        · rw [if_neg h2]; omega
      · rw [if_neg h1]; omega
    · rw [if_neg h0]; omega
theorem bk_less {W bits num : Nat} (h : bkOK W bits num) {nb : Nat} (hn : nb ≤ num) : bkOK (W / 2 ^ nb) (bits / 2 ^ nb) (num - nb) where
  n := by have := h.n; omega
  lt := Nat.lt_of_le_of_lt (Nat.div_le_self _ _) h.lt
  low := fun k hk => by rw [bt_div, bt_div]; exact h.low _ (by omega)
  up := fun k => by rw [bt_div, bt_div]; exact h.up _
theorem bk_val {W bits num : Nat} (h : bkOK W bits num) {nb : Nat} (hn : nb ≤ num) : bits % 2 ^ nb = W % 2 ^ nb := mod_bt fun k hk => h.low k (by omega)
/-- A reader: its blocks, the bytes, how many bits were taken (P); what it has at hand. -/
structure RS where
  m : Fz
  rel : Rel TT
  rb : Nat
  sb : Nat
  bb : Nat
  vs : Value
  bs : List Nat
  big : Bool
  P : Nat
  off : Nat
  bits : Nat
  num : Nat
  pk : Value
  pkn : Nat
  dis : Int
  fed : Nat
  pos : Nat
  bv : Value
  bn : Nat
  arr : List Int
  prev : Int
def nilP : Seg TT := .c (.v (.pointer none))
def segR (hs hb sb bb off bits num : Nat) (big : Bool) (pk : Value) (pkn : Nat) (dis : Int) (fed : Nat) : List (Seg TT) :=
  [.c (iv .i64 off), .c (.i 110 (.p hs sb (.lit 0))), .c (.v .nilIface), .c (.i 105 (.p hb bb (.lit 0))), .c (iv .u64 bits), .c (iv .u64 num), .c (bv big), .c (.w pk pkn), .c (.v (.int .i64 dis)), .c (iv .u64 fed),
   nilP, .c (.p hb bb (.lit 0)), nilP]
def RS.H (x : RS) : List (Ent TT) := [.F x.m, .R x.rel, .B x.rb 108 (segR 3 4 x.sb x.bb x.off x.bits x.num x.big x.pk x.pkn x.dis x.fed), .B x.sb 198 (segS x.vs x.bs x.off x.prev), .B x.bb 190 (segB 3 x.sb x.pos x.bv x.bn x.arr)]
/-- The blocks' part. -/
def RS.H3 (x : RS) : List (Nat × Ent TT) := [(2, .B x.rb 108 (segR 3 4 x.sb x.bb x.off x.bits x.num x.big x.pk x.pkn x.dis x.fed)), (3, .B x.sb 198 (segS x.vs x.bs x.off x.prev)), (4, .B x.bb 190 (segB 3 x.sb x.pos x.bv x.bn x.arr))]
def getRS (P : Nat) : List (Ent TT) → Option RS
  | [.F m, .R rel, .B rb 108 [.c (.v (.int _ off)), .c (.i 110 (.p 3 sb _)), .c (.v .nilIface), .c (.i 105 (.p 4 bb _)), .c (.v (.int _ bits)), .c (.v (.int _ num)), .c (.v (.bool big)), .c (.w pk pkn), .c (.v (.int _ dis)), .c (.v (.int _ fed)), _, _, _],
      .B _ 198 [.c (.ro 5 vs l), .c (.v (.int _ i)), .c (.v (.int _ prev))], .B _ 190 [.c (.p 3 _ _), .c (.v (.int _ pos)), .c (.w bv bn), .r 5 512 arr]] =>
    some ⟨m, rel, rb, sb, bb, vs, nats l, big, P, off.toNat, bits.toNat, num.toNat, pk, pkn, dis, fed.toNat, pos.toNat, bv, bn, arr, prev⟩
  | _ => none
/-- The bits that are still to be read, as a number. -/
def RS.W (x : RS) : Nat := numL (bitsOf x.big x.bs) / 2 ^ x.P
def RS.q (x : RS) : Nat := (x.P + x.num) / 8
structure rsL (x : RS) : Prop where
  bytes : ∀ b ∈ x.bs, b < 256
  len : x.bs.length ≤ 300
  bk : bkOK x.W x.bits x.num
  al : (x.P + x.num) % 8 = 0
  end_ : x.P + x.num ≤ 8 * x.bs.length
  off : x.off ≤ (x.P + 7) / 8
  pos : x.pos ≤ x.off
  arr : x.arr.length = 512
  pk : vw x.bb x.arr x.bs x.pk x.pkn x.q
  bv : vw x.bb x.arr x.bs x.bv x.bn x.pos
  cov : x.q + x.pkn ≤ x.pos + x.bn ∨ (x.pkn = 0 ∧ x.q ≤ (x.P + 7) / 8)
structure rsOK (x : RS) : Prop where
  l : rsL x
  dis : x.dis = (x.P : Int) - 8 * x.off - (x.fed - x.num)
  fed : x.num ≤ x.fed ∧ x.fed ≤ 64
/-- As rsOK, but nothing is said of the bits at hand (behind bytes that were read straight from the source). -/
structure rsW (x : RS) : Prop where
  bytes : ∀ b ∈ x.bs, b < 256
  len : x.bs.length ≤ 300
  n : x.num ≤ 64
  al : (x.P + x.num) % 8 = 0
  end_ : x.P + x.num ≤ 8 * x.bs.length
  off : x.off ≤ (x.P + 7) / 8
  pos : x.pos ≤ x.off
  arr : x.arr.length = 512
  pk : vw x.bb x.arr x.bs x.pk x.pkn x.q
  bv : vw x.bb x.arr x.bs x.bv x.bn x.pos
  cov : x.q + x.pkn ≤ x.pos + x.bn ∨ (x.pkn = 0 ∧ x.q ≤ (x.P + 7) / 8)
  dis : x.dis = (x.P : Int) - 8 * x.off - (x.fed - x.num)
  fed : x.num ≤ x.fed ∧ x.fed ≤ 64
theorem rsOK.w {x : RS} (h : rsOK x) : rsW x := ⟨h.l.bytes, h.l.len, h.l.bk.n, h.l.al, h.l.end_, h.l.off, h.l.pos, h.l.arr, h.l.pk, h.l.bv, h.l.cov, h.dis, h.fed⟩
/-! Flush -/
def RS.flushed (x : RS) : RS := { x with
  off := (x.P + 7) / 8
  pk := .slice none 0 0
  pkn := 0
  fed := x.num
  dis := (x.P : Int) - 8 * ((x.P + 7) / 8 : Nat)
  prev := -1 }
def c80 (P : Nat) : Ctr TT where
  X := RS
  find a H := match a with
    | [.p 2 _ (.lit 0)] => getRS P H
    | _ => none
  phi x := rsW x
  args x := [.p 2 x.rb (.lit 0)]
  H x := x.H
  outs := [{ Y := fun _ => Unit, psi := fun _ _ => True, res := fun x _ => .t [iv .i64 ((x.P + 7) / 8), .v .nilIface], H := fun x y => x.flushed.H }]
def b80 : Nat → Option (PT TT)
  | 213 => some (loc [none, none] c213.pt)
  | _ => none
theorem lut_ok : ∀ n : Fin 256, bitI BinOp.or IntKind.u8 (shrI IntKind.u8 (bitI BinOp.and IntKind.u8 (bitI BinOp.or IntKind.u8 (shrI IntKind.u8 (bitI BinOp.and IntKind.u8 (bitI BinOp.or IntKind.u8 (shrI IntKind.u8 (bitI BinOp.and IntKind.u8 (n.val : Int) (170 : Int)) (1 : Int)) (shlI IntKind.u8 (bitI BinOp.and IntKind.u8 (n.val : Int) (85 : Int)) (1 : Int))) (204 : Int)) (2 : Int)) (shlI IntKind.u8 (bitI BinOp.and IntKind.u8 (bitI BinOp.or IntKind.u8 (shrI IntKind.u8 (bitI BinOp.and IntKind.u8 (n.val : Int) (170 : Int)) (1 : Int)) (shlI IntKind.u8 (bitI BinOp.and IntKind.u8 (n.val : Int) (85 : Int)) (1 : Int))) (51 : Int)) (2 : Int))) (240 : Int)) (4 : Int)) (shlI IntKind.u8 (bitI BinOp.and IntKind.u8 (bitI BinOp.or IntKind.u8 (shrI IntKind.u8 (bitI BinOp.and IntKind.u8 (bitI BinOp.or IntKind.u8 (shrI IntKind.u8 (bitI BinOp.and IntKind.u8 (n.val : Int) (170 : Int)) (1 : Int)) (shlI IntKind.u8 (bitI BinOp.and IntKind.u8 (n.val : Int) (85 : Int)) (1 : Int))) (204 : Int)) (2 : Int)) (shlI IntKind.u8 (bitI BinOp.and IntKind.u8 (bitI BinOp.or IntKind.u8 (shrI IntKind.u8 (bitI BinOp.and IntKind.u8 (n.val : Int) (170 : Int)) (1 : Int)) (shlI IntKind.u8 (bitI BinOp.and IntKind.u8 (n.val : Int) (85 : Int)) (1 : Int))) (51 : Int)) (2 : Int))) (15 : Int)) (4 : Int)) = (↑(numL (byteBits true n.val)) : Int) := by decide +kernel
end Pc
