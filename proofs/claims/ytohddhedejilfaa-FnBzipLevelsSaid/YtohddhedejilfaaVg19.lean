/-
  The frame rule is sound.
-/
import Derived.Test.YtohddhedejilfaaVg18
set_option linter.unusedVariables false
namespace Go.Vg
variable {T : Tys}

theorem has_lt {H : List (Ent T)} {h k : Nat} (hh : (H.getD h .X).has k) : h < H.length := by
  rcases Nat.lt_or_ge h H.length with h0 | h0
  · exact h0
  · rw [List.getD_eq_getElem?_getD, List.getElem?_eq_none h0] at hh; exact hh.elim

theorem getD_of {H : List (Ent T)} {h : Nat} {e : Ent T} (hh : H[h]? = some e) : H.getD h .X = e := by
  rw [List.getD_eq_getElem?_getD, hh]; rfl

open Classical in
noncomputable def rest (H : List (Ent T)) (idx hs : List Nat) (w : World) : Nat → Option Obj :=
  fun k => if Owns H k ∧ (∀ h ∈ idx, ¬ (H.getD h .X).has k) ∧ ∀ h ∈ hs, ¬ (H.getD h .X).has k then w.heap[k]? else none
def locH (H : List (Ent T)) (idx : List Nat) (m : Nat → Option Obj) : List (Ent T) := .F m :: idx.map fun h => (H.getD h .X).ren (into idx)

theorem rest_of {H : List (Ent T)} {idx hs : List Nat} {w : World} {k : Nat} (h : rest H idx hs w k ≠ none) : (Owns H k ∧ (∀ h ∈ idx, ¬ (H.getD h .X).has k) ∧ ∀ h ∈ hs, ¬ (H.getD h .X).has k) ∧ rest H idx hs w k = w.heap[k]? := by
  unfold rest at h ⊢
  split at h
  · rename_i h0; exact ⟨h0, by rw [if_pos h0]⟩
  · exact (h rfl).elim

theorem locH_get {H : List (Ent T)} {idx : List Nat} {m : Nat → Option Obj} {i : Nat} {e : Ent T} (h : (locH H idx m)[i]? = some e) : (i = 0 ∧ e = .F m) ∨ ∃ j g, i = j + 1 ∧ idx[j]? = some g ∧ e = (H.getD g .X).ren (into idx) := by
  cases i with
  | zero => simp only [locH, List.getElem?_cons_zero, Option.some.injEq] at h; exact .inl ⟨rfl, h.symm⟩
  | succ j =>
    simp only [locH, List.getElem?_cons_succ, List.getElem?_map, Option.map_eq_some_iff] at h
    obtain ⟨g, hg, rfl⟩ := h
    exact .inr ⟨j, g, rfl, hg, rfl⟩
theorem locH_owns {H : List (Ent T)} {idx : List Nat} {m : Nat → Option Obj} {k : Nat} (h : Owns (locH H idx m) k) : m k ≠ none ∨ ∃ g ∈ idx, (H.getD g .X).has k := by
  obtain ⟨i, e, hi, he⟩ := h
  rcases locH_get hi with ⟨_, rfl⟩ | ⟨j, g, _, hg, rfl⟩
  · exact .inl he
  · exact .inr ⟨g, List.mem_of_getElem? hg, (Ent.ren_has _ _ _).1 he⟩
theorem owns_getD {H : List (Ent T)} {g k : Nat} (h : (H.getD g .X).has k) : Owns H k := ⟨g, _, getD_ent H g (has_lt h), h⟩

theorem nodup_get {l : List Nat} (hn : l.Nodup) {i j g : Nat} (hi : l[i]? = some g) (hj : l[j]? = some g) : i = j := by
  have h1 : i < l.length := by
    rcases Nat.lt_or_ge i l.length with h0 | h0
    · exact h0
    · rw [List.getElem?_eq_none h0] at hi; cases hi
  exact (List.getElem?_inj h1 hn).1 (hi.trans hj.symm)

section
variable {C : Ctx T} {H : List (Ent T)} {w : World} (hH : HOK C H w) {idx hs : List Nat} (hn : idx.Nodup) (hlt : ∀ h ∈ idx, h < H.length) (hd : ∀ h ∈ hs, h ∉ idx)
include hH hn hlt hd

omit hn hlt in
theorem loc_owns {k : Nat} (h : Owns (locH H idx (rest H idx hs w)) k) : Owns H k ∧ ∀ h ∈ hs, ¬ (H.getD h .X).has k := by
  rcases locH_owns h with h | ⟨g, hg, h⟩
  · exact ⟨(rest_of h).1.1, (rest_of h).1.2.2⟩
  · refine ⟨owns_getD h, fun x hx hk => hd x hx ?_⟩
    rw [hH.apart x g _ _ k (getD_ent H x (has_lt hk)) (getD_ent H g (has_lt h)) hk h]
    exact hg

theorem loc_hok : HOK C (locH H idx (rest H idx hs w)) w := by
  have s : Stp (Owns H) (Owns (locH H idx (rest H idx hs w))) w w := ⟨rfl, rfl, rfl, Nat.le_refl _, fun _ _ _ => rfl, fun k hk => .inl (loc_owns hH hd hk).1⟩
  refine ⟨fun i e hi => ?_, fun i j e e' k hi hj he he' => ?_, fun k hk => hH.lt k (loc_owns hH hd hk).1, fun g v hg => ?_⟩
  · rcases locH_get hi with ⟨_, rfl⟩ | ⟨j, g, _, hg, rfl⟩
    · exact fun k hk => (rest_of hk).2.symm
    · exact Ent.ren_ok _ _ (Ent.ok_step s _ (hH.ents g _ (getD_ent H g (hlt g (List.mem_of_getElem? hg)))) (fun _ _ => rfl))
  · rcases locH_get hi with ⟨rfl, rfl⟩ | ⟨i', g, rfl, hg, rfl⟩ <;> rcases locH_get hj with ⟨rfl, rfl⟩ | ⟨j', g', rfl, hg', rfl⟩
    · rfl
    · exact ((rest_of he).1.2.1 g' (List.mem_of_getElem? hg') ((Ent.ren_has _ _ _).1 he')).elim
    · exact ((rest_of he').1.2.1 g (List.mem_of_getElem? hg) ((Ent.ren_has _ _ _).1 he)).elim
    · have h1 := (Ent.ren_has _ _ _).1 he
      have h2 := (Ent.ren_has _ _ _).1 he'
      have := hH.apart g g' _ _ k (getD_ent H g (has_lt h1)) (getD_ent H g' (has_lt h2)) h1 h2
      subst this
      rw [nodup_get hn hg hg']
  · obtain ⟨h1, h2, h3, h4⟩ := hH.glob g v hg
    exact ⟨h1, h2, fun h => h3 (loc_owns hH hd h).1, h4⟩

theorem loc_out {es : List (Ent T)} {w' : World} {r : SV T} (hH' : HOK C (.F (rest H idx hs w) :: es) w') (hr : r.valid (Owns (.F (rest H idx hs w) :: es)) w') (s : Stp (Owns (locH H idx (rest H idx hs w))) (Owns (.F (rest H idx hs w) :: es)) w w')
    (hro : (hs.isEmpty || (r.noRo && es.all Ent.noRo)) = true) : HOK C (merge H idx es) w' ∧ (r.ren (back idx H.length)).valid (Owns (merge H idx es)) w' ∧ Stp (Owns H) (Owns (merge H idx es)) w w' := by
  have outside : ∀ (g : Nat) (e : Ent T) (k : Nat), g ∉ idx → H[g]? = some e → e.has k → ∀ h ∈ idx, ¬ (H.getD h .X).has k := by
    intro g e k hg he hk h hh hk'
    have := hH.apart g h e _ k he (getD_ent H h (has_lt hk')) hk hk'
    subst this
    exact hg hh
  have ownsM : ∀ k, Owns (merge H idx es) k → (∃ g e, g ∉ idx ∧ H[g]? = some e ∧ e.has k) ∨ Owns (.F (rest H idx hs w) :: es) k := by
    rintro k ⟨g, e, he, hk⟩
    rcases merge_get H idx es hn hlt g e he with ⟨h1, h2⟩ | rfl | ⟨i, e0, h1, rfl, _⟩
    · exact .inl ⟨g, e, h1, h2, hk⟩
    · exact hk.elim
    · exact .inr ⟨i + 1, e0, h1, (Ent.ren_has _ _ _).1 hk⟩
  have st : Stp (Owns H) (Owns (merge H idx es)) w w' := by
    refine ⟨s.os, s.tape, s.output, s.size, fun k hk ho => s.block k hk (fun h => ho (loc_owns hH hd h).1), fun k hk => ?_⟩
    rcases ownsM k hk with ⟨g, e, _, he, hk⟩ | hk
    · exact .inl ⟨g, e, he, hk⟩
    · exact (s.own k hk).imp (fun h => (loc_owns hH hd h).1) id
  have kept : ∀ (g : Nat) (e : Ent T) (k : Nat), g ∉ idx → H[g]? = some e → e.has k → w'.heap[k]? = w.heap[k]? := by
    intro g e k hg he hk
    by_cases ho : Owns (locH H idx (rest H idx hs w)) k
    · rcases locH_owns ho with h | ⟨x, hx, h⟩
      · have h1 := hH'.ents 0 _ rfl k h
        rw [h1, (rest_of h).2]
      · exact (outside g e k hg he hk x hx h).elim
    · exact s.block k (hH.lt k ⟨g, e, he, hk⟩) ho
  have sub : hs = [] → ∀ k, Owns (merge H idx es) k → Owns (.F (rest H idx hs w) :: es) k := by
    rintro rfl k hk
    rcases ownsM k hk with ⟨g, e, hg, he, hk⟩ | hk
    · refine ⟨0, _, rfl, ?_⟩
      have hlt := hH.lt k ⟨g, e, he, hk⟩
      show rest H idx [] w k ≠ none
      unfold rest
      rw [if_pos ⟨⟨g, e, he, hk⟩, outside g e k hg he hk, by simp⟩, Array.getElem?_eq_getElem hlt]
      simp
    · exact hk
  have stp' : hs = [] → Stp (Owns (.F (rest H idx hs w) :: es)) (Owns (merge H idx es)) w' w' := fun h => ⟨rfl, rfl, rfl, Nat.le_refl _, fun _ _ _ => rfl, fun k hk => .inl (sub h k hk)⟩
  have okE : ∀ (i : Nat) (e0 : Ent T), es[i]? = some e0 → e0.ok (Owns (merge H idx es)) w' := by
    intro i e0 hi
    have h1 := hH'.ents (i + 1) e0 hi
    rw [Bool.or_eq_true, Bool.and_eq_true] at hro
    rcases hro with h | h
    · exact Ent.ok_step (stp' (by simpa using h)) e0 h1 (fun _ _ => rfl)
    · exact Ent.noRo_ok e0 (List.all_eq_true.1 h.2 e0 (List.mem_of_getElem? hi)) h1
  refine ⟨⟨fun g e he => ?_, fun g g' e e' k he he' hk hk' => ?_, fun k hk => ?_, fun g v hg => ?_⟩, ?_, st⟩
  · rcases merge_get H idx es hn hlt g e he with ⟨h1, h2⟩ | rfl | ⟨i, e0, h1, rfl, _⟩
    · exact Ent.ok_step st e (hH.ents g e h2) (fun k hk => kept g e k h1 h2 hk)
    · trivial
    · exact Ent.ren_ok _ _ (okE i e0 h1)
  · have cross : ∀ (g i : Nat) (e e0 : Ent T), g ∉ idx → H[g]? = some e → e.has k → es[i]? = some e0 → e0.has k → False := by
      intro g i e e0 hg he hk hi hk0
      have hlt := hH.lt k ⟨g, e, he, hk⟩
      rcases s.own k ⟨i + 1, e0, hi, hk0⟩ with h | h
      · rcases locH_owns h with h | ⟨x, hx, h⟩
        · have := hH'.apart 0 (i + 1) _ _ k rfl hi h hk0
          omega
        · exact outside g e k hg he hk x hx h
      · omega
    rcases merge_get H idx es hn hlt g e he with ⟨h1, h2⟩ | rfl | ⟨i, e0, h1, rfl, hi⟩
    · rcases merge_get H idx es hn hlt g' e' he' with ⟨h1', h2'⟩ | rfl | ⟨j, e1, h1', rfl, hj⟩
      · exact hH.apart g g' e e' k h2 h2' hk hk'
      · exact hk'.elim
      · exact (cross g j e e1 h1 h2 hk h1' ((Ent.ren_has _ _ _).1 hk')).elim
    · exact hk.elim
    · rcases merge_get H idx es hn hlt g' e' he' with ⟨h1', h2'⟩ | rfl | ⟨j, e1, h1', rfl, hj⟩
      · exact (cross g' i e' e0 h1' h2' hk' h1 ((Ent.ren_has _ _ _).1 hk)).elim
      · exact hk'.elim
      · have := hH'.apart (i + 1) (j + 1) e0 e1 k h1 h1' ((Ent.ren_has _ _ _).1 hk) ((Ent.ren_has _ _ _).1 hk')
        have hij : i = j := by omega
        subst hij
        rcases hi with ⟨ha, hb⟩ | ⟨ha, hb⟩ <;> rcases hj with ⟨hc, hd⟩ | ⟨hc, hd⟩
        · rw [hb] at hd; exact Option.some.inj hd
        · omega
        · omega
        · omega
  · rcases ownsM k hk with ⟨g, e, _, he, hk⟩ | hk
    · exact Nat.lt_of_lt_of_le (hH.lt k ⟨g, e, he, hk⟩) s.size
    · exact hH'.lt k hk
  · obtain ⟨h1, h2, h3, h4⟩ := hH'.glob g v hg
    refine ⟨h1, h2, fun h => ?_, h4⟩
    rcases ownsM g h with ⟨x, e, _, he, hk⟩ | hk
    · exact (hH.glob g v hg).2.2.1 ⟨x, e, he, hk⟩
    · exact h3 hk
  · refine SV.ren_valid _ _ _ _ ?_
    rw [Bool.or_eq_true, Bool.and_eq_true] at hro
    rcases hro with h | h
    · exact SV.valid_step (stp' (by simpa using h)) r hr
    · exact SV.noRo_valid r h.1 hr
end

theorem locOut_den {H : List (Ent T)} {idx hs : List Nat} {m : Nat → Option Obj} {K : SV T → List (Ent T) → VCT} {r : SV T} {Hl : List (Ent T)} (h : (locOut H idx hs m K r Hl).den) :
    ∃ es, Hl = .F m :: es ∧ (hs.isEmpty || (r.noRo && es.all Ent.noRo)) = true ∧ (K (r.ren (back idx H.length)) (merge H idx es)).den := by
  unfold locOut at h
  split at h
  · split at h
    · rename_i hc
      obtain ⟨rfl, h⟩ := h
      exact ⟨_, rfl, hc, h⟩
    · exact h.elim
  · exact h.elim

/-- ████ THE FRAME RULE. ████ -/
theorem loc_ok {C : Ctx T} {f : Nat} {pt : PT T} (hs : SpecOK C f pt) (bor : List Bool) : SpecOK C f (loc bor pt) := by
  refine ⟨hs.enters, fun args H K Kp w hp hI => ?_⟩
  obtain ⟨args', hl, h1, h2, h3⟩ := bor_ok hI.1 bor args _ hp hI.2
  simp only at h1
  split at h1
  · rename_i hall
    obtain ⟨hn, hlt⟩ := reach_ok H 500 (SV.refsL args') [] (by simp) (by simp)
    generalize reach H 500 (SV.refsL args') [] = idx at *
    have hd : ∀ h ∈ hl, h ∉ idx := by
      intro h hh
      have := List.all_eq_true.1 hall h hh
      simpa using this
    have hok := loc_hok hI.1 hn hlt hd
    have hin : HInv C (SV.renL (into idx) args') (locH H idx (rest H idx hl w)) w := ⟨hok, SV.renL_valid _ _ _ _ (h3 _ fun j hj => loc_owns hI.1 hd hj)⟩
    have hc := hs.calls _ _ _ _ w (h1 (rest H idx hl w)) hin
    rw [SV.renL_toV, h2] at hc
    refine hc.mono ?_
    rintro e w' (⟨r, H', rfl, hk, hH', hr, hst⟩ | ⟨r, H', rfl, hk, hH', hr, hst⟩)
    · obtain ⟨es, rfl, hro, hk⟩ := locOut_den hk
      obtain ⟨g1, g2, g3⟩ := loc_out hI.1 hn hlt hd hH' hr hst hro
      exact .inl ⟨_, _, by rw [SV.ren_toV], hk, g1, g2, g3⟩
    · obtain ⟨es, rfl, hro, hk⟩ := locOut_den hk
      obtain ⟨g1, g2, g3⟩ := loc_out hI.1 hn hlt hd hH' hr hst hro
      exact .inr ⟨_, _, by rw [SV.ren_toV], hk, g1, g2, g3⟩
  · exact h1.elim
end Go.Vg
