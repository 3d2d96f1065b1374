/-
 The frame rule is sound.
-/
import Derived.Test.YtdeidljffgahkaaGreatDoorWalk01
import Derived.Below
import Derived.Defers
import Derived.Recover
import Derived.Test.YtdeidljffgahkaaGreatDoorProg
set_option linter.unusedVariables false
namespace Go.Vg
variable {T : Tys}

theorem has_lt {H : List (Ent T)} {h k : Nat} (hh : (H.getD h .X).has k) : h < H.length := by
 rcases Nat.lt_or_ge h H.length with h0 | h0
 . exact h0
 . rw [List.getD_eq_getElem?_getD, List.getElem?_eq_none h0] at hh; exact hh.elim

open Classical in
noncomputable def rest (H : List (Ent T)) (idx hs : List Nat) (w : World) : Nat -> Option Obj :=
 fun k => if Owns H k /\ (∀ h ∈ idx, ¬ (H.getD h .X).has k) /\ ∀ h ∈ hs, ¬ (H.getD h .X).has k then w.heap[k]? else none
def locH (H : List (Ent T)) (idx : List Nat) (m : Nat -> Option Obj) : List (Ent T) := .F m :: idx.map fun h => (H.getD h .X).ren (into idx)

theorem rest_of {H : List (Ent T)} {idx hs : List Nat} {w : World} {k : Nat} (h : rest H idx hs w k ≠ none) : (Owns H k /\ (∀ h ∈ idx, ¬ (H.getD h .X).has k) /\ ∀ h ∈ hs, ¬ (H.getD h .X).has k) /\ rest H idx hs w k = w.heap[k]? := by
 unfold rest at h ⊢
 split at h
 . rename_i h0; exact ⟨h0, by rw [if_pos h0]⟩
 . exact (h rfl).elim

theorem locH_get {H : List (Ent T)} {idx : List Nat} {m : Nat -> Option Obj} {i : Nat} {e : Ent T} (h : (locH H idx m)[i]? = some e) : (i = 0 /\ e = .F m) \/ ∃ j g, i = j + 1 /\ idx[j]? = some g /\ e = (H.getD g .X).ren (into idx) := by
 cases i with
 | zero => simp only [locH, List.getElem?_cons_zero, Option.some.injEq] at h; exact .inl ⟨rfl, h.symm⟩
 | succ j =>
   simp only [locH, List.getElem?_cons_succ, List.getElem?_map, Option.map_eq_some_iff] at h
   obtain ⟨g, hg, rfl⟩ := h
   exact .inr ⟨j, g, rfl, hg, rfl⟩
theorem locH_owns {H : List (Ent T)} {idx : List Nat} {m : Nat -> Option Obj} {k : Nat} (h : Owns (locH H idx m) k) : m k ≠ none \/ ∃ g ∈ idx, (H.getD g .X).has k := by
 obtain ⟨i, e, hi, he⟩ := h
 rcases locH_get hi with ⟨_, rfl⟩ | ⟨j, g, _, hg, rfl⟩
 . exact .inl he
 . exact .inr ⟨g, List.mem_of_getElem? hg, (Ent.ren_has _ _ _).1 he⟩
theorem owns_getD {H : List (Ent T)} {g k : Nat} (h : (H.getD g .X).has k) : Owns H k := ⟨g, _, getD_ent H g (has_lt h), h⟩

theorem nodup_get {l : List Nat} (hn : l.Nodup) {i j g : Nat} (hi : l[i]? = some g) (hj : l[j]? = some g) : i = j := by
 have h1 : i < l.length := by
   rcases Nat.lt_or_ge i l.length with h0 | h0
   . exact h0
   . rw [List.getElem?_eq_none h0] at hi; cases hi
 exact (List.getElem?_inj h1 hn).1 (hi.trans hj.symm)

section
variable {C : Ctx T} {H : List (Ent T)} {w : World} (hH : HOK C H w) {idx hs : List Nat} (hn : idx.Nodup) (hlt : ∀ h ∈ idx, h < H.length) (hd : ∀ h ∈ hs, h ∉ idx)
include hH hn hlt hd

omit hn hlt in
theorem loc_owns {k : Nat} (h : Owns (locH H idx (rest H idx hs w)) k) : Owns H k /\ ∀ h ∈ hs, ¬ (H.getD h .X).has k := by
 rcases locH_owns h with h | ⟨g, hg, h⟩
 . exact ⟨(rest_of h).1.1, (rest_of h).1.2.2⟩
 . refine ⟨owns_getD h, fun x hx hk => hd x hx ?_⟩
   rw [hH.apart x g _ _ k (getD_ent H x (has_lt hk)) (getD_ent H g (has_lt h)) hk h]
   exact hg

theorem loc_hok : HOK C (locH H idx (rest H idx hs w)) w := by
 have s : Stp (Owns H) (Owns (locH H idx (rest H idx hs w))) w w := ⟨rfl, rfl, rfl, Nat.le_refl _, fun _ _ _ => rfl, fun k hk => .inl (loc_owns hH hd hk).1⟩
 refine ⟨fun i e hi => ?_, fun i j e e' k hi hj he he' => ?_, fun k hk => hH.lt k (loc_owns hH hd hk).1, fun g v hg => ?_⟩
 . rcases locH_get hi with ⟨_, rfl⟩ | ⟨j, g, _, hg, rfl⟩
   . exact fun k hk => (rest_of hk).2.symm
   . exact Ent.ren_ok _ _ (Ent.ok_step s _ (hH.ents g _ (getD_ent H g (hlt g (List.mem_of_getElem? hg)))) (fun _ _ => rfl))
 . rcases locH_get hi with ⟨rfl, rfl⟩ | ⟨i', g, rfl, hg, rfl⟩ <;> rcases locH_get hj with ⟨rfl, rfl⟩ | ⟨j', g', rfl, hg', rfl⟩
   . rfl
   . exact ((rest_of he).1.2.1 g' (List.mem_of_getElem? hg') ((Ent.ren_has _ _ _).1 he')).elim
   . exact ((rest_of he').1.2.1 g (List.mem_of_getElem? hg) ((Ent.ren_has _ _ _).1 he)).elim
   . have h1 := (Ent.ren_has _ _ _).1 he
     have h2 := (Ent.ren_has _ _ _).1 he'
     have := hH.apart g g' _ _ k (getD_ent H g (has_lt h1)) (getD_ent H g' (has_lt h2)) h1 h2
     subst this
     rw [nodup_get hn hg hg']
 . obtain ⟨h1, h2, h3, h4⟩ := hH.glob g v hg
   exact ⟨h1, h2, fun h => h3 (loc_owns hH hd h).1, h4⟩

theorem loc_out {es : List (Ent T)} {w' : World} {r : SV T} (hH' : HOK C (.F (rest H idx hs w) :: es) w') (hr : r.valid (Owns (.F (rest H idx hs w) :: es)) w') (s : Stp (Owns (locH H idx (rest H idx hs w))) (Owns (.F (rest H idx hs w) :: es)) w w')
   (hro : hs = [] \/ (r.noRo = true /\ ∀ (i : Nat) (e : Ent T), es[i]? = some e -> e.noRo = true \/ ∃ (g : Nat) (rel : Rel T), e = .R rel /\ H[g]? = some e)) : HOK C (merge H idx es) w' /\ (r.ren (back idx H.length)).valid (Owns (merge H idx es)) w' /\ Stp (Owns H) (Owns (merge H idx es)) w w' := by
 have outside : ∀ (g : Nat) (e : Ent T) (k : Nat), g ∉ idx -> H[g]? = some e -> e.has k -> ∀ h ∈ idx, ¬ (H.getD h .X).has k := by
   intro g e k hg he hk h hh hk'
   have := hH.apart g h e _ k he (getD_ent H h (has_lt hk')) hk hk'
   subst this
   exact hg hh
 have ownsM : ∀ k, Owns (merge H idx es) k -> (∃ g e, g ∉ idx /\ H[g]? = some e /\ e.has k) \/ Owns (.F (rest H idx hs w) :: es) k := by
   rintro k ⟨g, e, he, hk⟩
   rcases merge_get H idx es hn hlt g e he with ⟨h1, h2⟩ | rfl | ⟨i, e0, h1, rfl, _⟩
   . exact .inl ⟨g, e, h1, h2, hk⟩
   . exact hk.elim
   . exact .inr ⟨i + 1, e0, h1, (Ent.ren_has _ _ _).1 hk⟩
 have st : Stp (Owns H) (Owns (merge H idx es)) w w' := by
   refine ⟨s.os, s.tape, s.output, s.size, fun k hk ho => s.block k hk (fun h => ho (loc_owns hH hd h).1), fun k hk => ?_⟩
   rcases ownsM k hk with ⟨g, e, _, he, hk⟩ | hk
   . exact .inl ⟨g, e, he, hk⟩
   . exact (s.own k hk).imp (fun h => (loc_owns hH hd h).1) id
 have kept : ∀ (g : Nat) (e : Ent T) (k : Nat), g ∉ idx -> H[g]? = some e -> e.has k -> w'.heap[k]? = w.heap[k]? := by
   intro g e k hg he hk
   by_cases ho : Owns (locH H idx (rest H idx hs w)) k
   . rcases locH_owns ho with h | ⟨x, hx, h⟩
     . have h1 := hH'.ents 0 _ rfl k h
       rw [h1, (rest_of h).2]
     . exact (outside g e k hg he hk x hx h).elim
   . exact s.block k (hH.lt k ⟨g, e, he, hk⟩) ho
 have sub : hs = [] -> ∀ k, Owns (merge H idx es) k -> Owns (.F (rest H idx hs w) :: es) k := by
   rintro rfl k hk
   rcases ownsM k hk with ⟨g, e, hg, he, hk⟩ | hk
   . refine ⟨0, _, rfl, ?_⟩
     have hlt := hH.lt k ⟨g, e, he, hk⟩
     show rest H idx [] w k ≠ none
     unfold rest
     rw [if_pos ⟨⟨g, e, he, hk⟩, outside g e k hg he hk, by simp⟩, Array.getElem?_eq_getElem hlt]
     simp
   . exact hk
 have stp' : hs = [] -> Stp (Owns (.F (rest H idx hs w) :: es)) (Owns (merge H idx es)) w' w' := fun h => ⟨rfl, rfl, rfl, Nat.le_refl _, fun _ _ _ => rfl, fun k hk => .inl (sub h k hk)⟩
 have okE : ∀ (i : Nat) (e0 : Ent T), es[i]? = some e0 -> e0.ok (Owns (merge H idx es)) w' := by
   intro i e0 hi
   have h1 := hH'.ents (i + 1) e0 hi
   rcases hro with h | h
   . exact Ent.ok_step (stp' h) e0 h1 (fun _ _ => rfl)
   . rcases h.2 i e0 hi with h2 | ⟨g, rel, rfl, h2⟩
     . exact Ent.noRo_ok e0 h2 h1
     . exact Ent.ok_step st _ (hH.ents g _ h2) (fun k hk => hk.elim)
 refine ⟨⟨fun g e he => ?_, fun g g' e e' k he he' hk hk' => ?_, fun k hk => ?_, fun g v hg => ?_⟩, ?_, st⟩
 . rcases merge_get H idx es hn hlt g e he with ⟨h1, h2⟩ | rfl | ⟨i, e0, h1, rfl, _⟩
   . exact Ent.ok_step st e (hH.ents g e h2) (fun k hk => kept g e k h1 h2 hk)
   . trivial
   . exact Ent.ren_ok _ _ (okE i e0 h1)
 . have cross : ∀ (g i : Nat) (e e0 : Ent T), g ∉ idx -> H[g]? = some e -> e.has k -> es[i]? = some e0 -> e0.has k -> False := by
     intro g i e e0 hg he hk hi hk0
     have hlt := hH.lt k ⟨g, e, he, hk⟩
     rcases s.own k ⟨i + 1, e0, hi, hk0⟩ with h | h
     . rcases locH_owns h with h | ⟨x, hx, h⟩
       . have := hH'.apart 0 (i + 1) _ _ k rfl hi h hk0
         omega
       . exact outside g e k hg he hk x hx h
     . omega
   rcases merge_get H idx es hn hlt g e he with ⟨h1, h2⟩ | rfl | ⟨i, e0, h1, rfl, hi⟩
   . rcases merge_get H idx es hn hlt g' e' he' with ⟨h1', h2'⟩ | rfl | ⟨j, e1, h1', rfl, hj⟩
     . exact hH.apart g g' e e' k h2 h2' hk hk'
     . exact hk'.elim
     . exact (cross g j e e1 h1 h2 hk h1' ((Ent.ren_has _ _ _).1 hk')).elim
   . exact hk.elim
   . rcases merge_get H idx es hn hlt g' e' he' with ⟨h1', h2'⟩ | rfl | ⟨j, e1, h1', rfl, hj⟩
     . exact (cross g' i e' e0 h1' h2' hk' h1 ((Ent.ren_has _ _ _).1 hk)).elim
     . exact hk'.elim
     . have := hH'.apart (i + 1) (j + 1) e0 e1 k h1 h1' ((Ent.ren_has _ _ _).1 hk) ((Ent.ren_has _ _ _).1 hk')
       have hij : i = j := by omega
       subst hij
       rcases hi with ⟨ha, hb⟩ | ⟨ha, hb⟩ <;> rcases hj with ⟨hc, hd⟩ | ⟨hc, hd⟩
       . rw [hb] at hd; exact Option.some.inj hd
       . omega
       . omega
       . omega
 . rcases ownsM k hk with ⟨g, e, _, he, hk⟩ | hk
   . exact Nat.lt_of_lt_of_le (hH.lt k ⟨g, e, he, hk⟩) s.size
   . exact hH'.lt k hk
 . obtain ⟨h1, h2, h3, h4⟩ := hH'.glob g v hg
   refine ⟨h1, h2, fun h => ?_, h4⟩
   rcases ownsM g h with ⟨x, e, _, he, hk⟩ | hk
   . exact (hH.glob g v hg).2.2.1 ⟨x, e, he, hk⟩
   . exact h3 hk
 . refine SV.ren_valid _ _ _ _ ?_
   rcases hro with h | h
   . exact SV.valid_step (stp' h) r hr
   . exact SV.noRo_valid r h.1 hr
end

theorem updR_const {rel : Rel T} : ∀ (es : List (Ent T)), noRoB es = true -> ∀ (i : Nat) (e : Ent T), (updR (fun _ => rel) es)[i]? = some e -> e.noRo = true \/ e = .R rel
 | [], _, i, e, h => by simp [updR] at h
 | .R _ :: r, hn, 0, e, h => by simp only [updR, List.getElem?_cons_zero, Option.some.injEq] at h; exact .inr h.symm
 | .R _ :: r, hn, i + 1, e, h => by
   simp only [updR, List.getElem?_cons_succ] at h
   exact .inl (List.all_eq_true.1 hn e (List.mem_of_getElem? h))
 | .B b t xs :: r, hn, i, e, h => by
   simp only [noRoB, Bool.and_eq_true] at hn
   cases i with
   | zero => simp only [updR, List.getElem?_cons_zero, Option.some.injEq] at h; subst h; exact .inl hn.1
   | succ i => simp only [updR, List.getElem?_cons_succ] at h; exact updR_const r hn.2 i e h
 | .O x t l :: r, hn, i, e, h => by
   simp only [noRoB, Bool.and_eq_true] at hn
   cases i with
   | zero => simp only [updR, List.getElem?_cons_zero, Option.some.injEq] at h; subst h; exact .inl hn.1
   | succ i => simp only [updR, List.getElem?_cons_succ] at h; exact updR_const r hn.2 i e h
 | .F m :: r, hn, i, e, h => by
   simp only [noRoB, Bool.and_eq_true] at hn
   cases i with
   | zero => simp only [updR, List.getElem?_cons_zero, Option.some.injEq] at h; subst h; exact .inl hn.1
   | succ i => simp only [updR, List.getElem?_cons_succ] at h; exact updR_const r hn.2 i e h
 | .X :: r, hn, i, e, h => by
   simp only [noRoB, Bool.and_eq_true] at hn
   cases i with
   | zero => simp only [updR, List.getElem?_cons_zero, Option.some.injEq] at h; subst h; exact .inl hn.1
   | succ i => simp only [updR, List.getElem?_cons_succ] at h; exact updR_const r hn.2 i e h

theorem locOut_ok {C : Ctx T} {H : List (Ent T)} {w w' : World} {idx hs : List Nat} {K : SV T -> List (Ent T) -> VCT} {r : SV T} {Hl : List (Ent T)} (hH : HOK C H w) (hn : idx.Nodup) (hlt : ∀ h ∈ idx, h < H.length) (hd : ∀ h ∈ hs, h ∉ idx)
   (h : (locOut H idx hs (rest H idx hs w) K r Hl).den) (hH' : HOK C Hl w') (hr : r.valid (Owns Hl) w') (s : Stp (Owns (locH H idx (rest H idx hs w))) (Owns Hl) w w') :
   ∃ H', (K (r.ren (back idx H.length)) H').den /\ HOK C H' w' /\ (r.ren (back idx H.length)).valid (Owns H') w' /\ Stp (Owns H) (Owns H') w w' := by
 unfold locOut at h
 split at h
 . rename_i m' es
   obtain ⟨rfl, h⟩ := h
   split at h
   . rename_i hc
     obtain ⟨g1, g2, g3⟩ := loc_out hH hn hlt hd hH' hr s (.inl (by simpa using hc))
     exact ⟨_, h, g1, g2, g3⟩
   . split at h
     . rename_i rel hrel
       split at h
       . rename_i hc
         rw [Bool.and_eq_true] at hc
         obtain ⟨g, hg⟩ := relOf_ok H rel hrel
         have hR : (Ent.R rel).ok (Owns (locH H idx (rest H idx hs w))) w := by
           intro e x l hx
           exact roOK_step (hH.ents g _ hg e x l hx) (fun k hk => (loc_owns hH hd hk).1)
         have hR' : (Ent.R rel).ok (Owns (.F (rest H idx hs w) :: es)) w' := fun e x l hx => (hR e x l hx).step s
         have e1 : updR (fun _ => rel) (.F (rest H idx hs w) :: es) = .F (rest H idx hs w) :: updR (fun _ => rel) es := rfl
         have hH2 := updR_hok (f := fun _ => rel) hH' (fun _ _ => hR')
         have hO : Owns (updR (fun _ => rel) (.F (rest H idx hs w) :: es)) = Owns (.F (rest H idx hs w) :: es) := updR_owns
         rw [e1] at hH2 hO
         obtain ⟨g1, g2, g3⟩ := loc_out hH hn hlt hd hH2 (by rw [hO]; exact hr) (by rw [hO]; exact s) (.inr ⟨hc.1, fun i e hi => by
           rcases updR_const es hc.2 i e hi with h1 | h1
           . exact .inl h1
           . exact .inr ⟨g, rel, h1, by rw [h1]; exact hg⟩⟩)
         exact ⟨_, h, g1, g2, g3⟩
       . exact h.elim
     . split at h
       . rename_i hc
         rw [Bool.and_eq_true] at hc
         obtain ⟨g1, g2, g3⟩ := loc_out hH hn hlt hd hH' hr s (.inr ⟨hc.1, fun i e hi => .inl (List.all_eq_true.1 hc.2 e (List.mem_of_getElem? hi))⟩)
         exact ⟨_, h, g1, g2, g3⟩
       . exact h.elim
 . exact h.elim

theorem loc_ok {C : Ctx T} {f : Nat} {pt : PT T} (hs : SpecOK C f pt) (bor : List (Option TypeId)) : SpecOK C f (loc bor pt) := by
 refine ⟨hs.enters, fun args H K Kp w hp hI => ?_⟩
 obtain ⟨args', hl, h1, h2, h3⟩ := bor_ok hI.1 bor args _ hp hI.2
 simp only at h1
 split at h1
 . rename_i hall
   obtain ⟨hn, hlt⟩ := reach_ok H 500 (rIdx H 0 ++ SV.refsL args') [] (by simp) (by simp)
   generalize reach H 500 (rIdx H 0 ++ SV.refsL args') [] = idx at *
   have hd : ∀ h ∈ hl, h ∉ idx := by
     intro h hh
     have := List.all_eq_true.1 hall h hh
     simpa using this
   have hok := loc_hok hI.1 hn hlt hd
   have hin : HInv C (SV.renL (into idx) args') (locH H idx (rest H idx hl w)) w := ⟨hok, SV.renL_valid _ _ _ _ (h3 _ fun j hj => loc_owns hI.1 hd hj)⟩
   have hc := hs.calls _ _ _ _ w (h1 (rest H idx hl w)) hin
   rw [SV.renL_toV, h2] at hc
   refine hc.mono ?_
   rintro e w' (⟨r, H', rfl, hk, hH', hr, hst⟩ | ⟨r, H', rfl, hk, hH', hr, hst⟩)
   . obtain ⟨H2, g0, g1, g2, g3⟩ := locOut_ok hI.1 hn hlt hd hk hH' hr hst
     exact .inl ⟨_, _, by rw [SV.ren_toV], g0, g1, g2, g3⟩
   . obtain ⟨H2, g0, g1, g2, g3⟩ := locOut_ok hI.1 hn hlt hd hk hH' hr hst
     exact .inr ⟨_, _, by rw [SV.ren_toV], g0, g1, g2, g3⟩
 . exact h1.elim
end Go.Vg
/-
 What a function gives back: rows that are frozen; memory that is swept.
-/
set_option linter.unusedVariables false
namespace Go.Vg
variable {T : Tys}

mutual
/-- Rows of one's own that are given back become rows that are read alone. -/
def frz : SV T -> List (Ent T) -> (SV T -> List (Ent T) -> VCT) -> VCT
 | .o h e x n, H, k => match H.getD h .X with
   | .O x' e' l => .fact (x = x' /\ n = l.length) (k (.ro e' x l) (H.set h .X))
   | _ => .ff "freeze: no row of its own"
 | .t xs, H, k => frzL xs H fun ys H => k (.t ys) H
 | x, H, k => k x H
def frzL : List (SV T) -> List (Ent T) -> (List (SV T) -> List (Ent T) -> VCT) -> VCT
 | [], H, k => k [] H
 | x :: r, H, k => frz x H fun y H => frzL r H fun ys H => k (y :: ys) H
end
def sweep (n0 : Nat) (K : SV T -> List (Ent T) -> VCT) (r : SV T) (H : List (Ent T)) : VCT :=
 if n0 <= H.length then
   let idx := reach H 500 (r.refs ++ (H.take n0).flatMap Ent.refs) (List.range n0)
   let gone := (List.range H.length).filter fun i => !idx.contains i
   updRK (gone.map fun h => H.getD h .X) (idx.map fun h => (H.getD h .X).ren (posOf idx)) fun H' => K (r.ren (posOf idx)) H'
 else .ff "sweep"
def outK (fz : Bool) (n0 : Nat) (K : SV T -> List (Ent T) -> VCT) (r : SV T) (H : List (Ent T)) : VCT :=
 if fz then frz r H (sweep n0 K) else sweep n0 K r H

theorem set_X {H : List (Ent T)} {h : Nat} : ∀ (i : Nat) (e : Ent T), (H.set h .X)[i]? = some e -> e = .X \/ H[i]? = some e := by
 intro i e hi
 rw [List.getElem?_set] at hi
 split at hi
 . split at hi
   . exact .inl (Option.some.inj hi).symm
   . cases hi
 . exact .inr hi

abbrev Frz (C : Ctx T) (H : List (Ent T)) (w : World) (r : SV T) (k : SV T -> List (Ent T) -> VCT) : Prop :=
 ∃ r' H', r'.toV = r.toV /\ (k r' H').den /\ HOK C H' w /\ r'.valid (Owns H') w /\ Stp (Owns H) (Owns H') w w

theorem frz_one {C : Ctx T} {w : World} {x : SV T} {H : List (Ent T)} {k : SV T -> List (Ent T) -> VCT} (h : (k x H).den) (hH : HOK C H w) (hx : x.valid (Owns H) w) : Frz C H w x k := ⟨x, H, rfl, h, hH, hx, Stp.refl _ _⟩
mutual
theorem frz_ok {C : Ctx T} {w : World} : ∀ (x : SV T) (H : List (Ent T)) (k : SV T -> List (Ent T) -> VCT), (frz x H k).den -> HOK C H w -> x.valid (Owns H) w -> Frz C H w x k
 | .o h e x n, H, k, hk, hH, hx => by
   unfold frz at hk
   split at hk
   . rename_i x' e' l he
     obtain ⟨⟨rfl, rfl⟩, hk⟩ := hk
     have hent : (H.getD h .X).ok (Owns H) w := ent_ok (S := { fr := Fr.nil, H := H }) hH h
     rw [he] at hent
     have hn := ent_get (S := { fr := Fr.nil, H := H }) (h := h) he (by intro h; cases h)
     obtain ⟨g1, g2⟩ := drop_hok hH (set_X (H := H) (h := h))
     refine ⟨.ro e' x l, H.set h .X, rfl, hk, g1, ?_, g2⟩
     rcases hent.2 with ⟨hv0, hl⟩ | ⟨g, cap, cur, hv0, _, _, hnc, hm, _⟩
     . exact ⟨none, 0, by rw [hv0, hl], by omega, by decide, fun h0 => by omega⟩
     . refine ⟨_, cap, hv0, hnc, hm, fun h0 => ?_⟩
       obtain ⟨g', cap', hv', _, _, hc⟩ := own_cells hent h0
       rw [hv0] at hv'
       cases hv'
       refine ⟨_, rfl, ?_, hH.lt g ⟨h, _, hn, by rw [hv0]; rfl⟩, hc⟩
       rintro ⟨i, e1, hi, he1⟩
       rw [List.getElem?_set] at hi
       split at hi
       . split at hi
         . rw [<- Option.some.inj hi] at he1; exact he1.elim
         . cases hi
       . rename_i hne
         exact hne (hH.apart h i _ _ g hn hi (by rw [hv0]; rfl) he1)
   . exact hk.elim
 | .t xs, H, k, hk, hH, hx => by
   obtain ⟨ys, H', h1, h2, h3, h4, h5⟩ := frzL_ok xs H _ hk hH hx
   exact ⟨.t ys, H', by simp only [SV.toV, h1], h2, h3, h4, h5⟩
 | .un, H, k, hk, hH, hx | .v _, H, k, hk, hH, hx | .p _ _ _, H, k, hk, hH, hx | .s _ _ _ _ _ _ _, H, k, hk, hH, hx | .ov _ _ _ _ _ _, H, k, hk, hH, hx | .w _ _, H, k, hk, hH, hx | .q _ _ _ _ _, H, k, hk, hH, hx
 | .ro _ _ _, H, k, hk, hH, hx | .rq _ _ _ _ _, H, k, hk, hH, hx | .i _ _, H, k, hk, hH, hx | .a _, H, k, hk, hH, hx | .f _ _ _, H, k, hk, hH, hx => frz_one hk hH hx
theorem frzL_ok {C : Ctx T} {w : World} : ∀ (xs : List (SV T)) (H : List (Ent T)) (k : List (SV T) -> List (Ent T) -> VCT), (frzL xs H k).den -> HOK C H w -> SV.validL (Owns H) w xs ->
   ∃ ys H', SV.toVL ys = SV.toVL xs /\ (k ys H').den /\ HOK C H' w /\ SV.validL (Owns H') w ys /\ Stp (Owns H) (Owns H') w w
 | [], H, k, hk, hH, hx => ⟨[], H, rfl, hk, hH, trivial, Stp.refl _ _⟩
 | x :: r, H, k, hk, hH, hx => by
   obtain ⟨y, H1, h1, h2, h3, h4, h5⟩ := frz_ok x H _ hk hH hx.1
   obtain ⟨ys, H2, g1, g2, g3, g4, g5⟩ := frzL_ok r H1 _ h2 h3 (SV.validL_step h5 r hx.2)
   exact ⟨y :: ys, H2, by simp only [SV.toVL, h1, g1], g2, g3, ⟨SV.valid_step g5 y h4, g4⟩, h5.trans g5⟩
end

theorem sweep_ok {C : Ctx T} {w : World} {n0 : Nat} {K : SV T -> List (Ent T) -> VCT} {r : SV T} {H : List (Ent T)} (h : (sweep n0 K r H).den) (hH : HOK C H w) (hr : r.valid (Owns H) w) : Frz C H w r K := by
 unfold sweep at h
 split at h
 . rename_i hle
   obtain ⟨hn, hlt⟩ := reach_ok H 500 (r.refs ++ (H.take n0).flatMap Ent.refs) (List.range n0) List.nodup_range (fun h hh => by simp at hh; omega)
   simp only [updRK_eq] at h
   generalize reach H 500 (r.refs ++ (H.take n0).flatMap Ent.refs) (List.range n0) = idx at *
   have get : ∀ (i : Nat) (e : Ent T), (idx.map fun h => (H.getD h .X).ren (posOf idx))[i]? = some e -> ∃ g : Nat, idx[i]? = some g /\ g < H.length /\ e = (H.getD g .X).ren (posOf idx) := by
     intro i e hi
     rw [List.getElem?_map, Option.map_eq_some_iff] at hi
     obtain ⟨g, hg, rfl⟩ := hi
     exact ⟨g, hg, hlt g (List.mem_of_getElem? hg), rfl⟩
   have sub : ∀ k, Owns (idx.map fun h => (H.getD h .X).ren (posOf idx)) k -> Owns H k := by
     rintro k ⟨i, e, hi, he⟩
     obtain ⟨g, _, hg, rfl⟩ := get i e hi
     exact owns_getD ((Ent.ren_has _ _ _).1 he)
   have s : Stp (Owns H) (Owns (idx.map fun h => (H.getD h .X).ren (posOf idx))) w w := ⟨rfl, rfl, rfl, Nat.le_refl _, fun _ _ _ => rfl, fun k hk => .inl (sub k hk)⟩
   have hnew : HOK C (idx.map fun h => (H.getD h .X).ren (posOf idx)) w := by
    refine ⟨fun i e hi => ?_, fun i j e e' k hi hj he he' => ?_, fun k hk => hH.lt k (sub k hk), fun g v hg => ?_⟩
    . obtain ⟨g, _, hg, rfl⟩ := get i e hi
      exact Ent.ren_ok _ _ (Ent.ok_step s _ (hH.ents g _ (getD_ent H g hg)) (fun _ _ => rfl))
    . obtain ⟨g, h1, hg, rfl⟩ := get i e hi
      obtain ⟨g', h1', hg', rfl⟩ := get j e' hj
      have := hH.apart g g' _ _ k (getD_ent H g hg) (getD_ent H g' hg') ((Ent.ren_has _ _ _).1 he) ((Ent.ren_has _ _ _).1 he')
      subst this
      exact nodup_get hn h1 h1'
    . obtain ⟨h1, h2, h3, h4⟩ := hH.glob g v hg
      exact ⟨h1, h2, fun h => h3 (sub g h), h4⟩
   obtain ⟨k1, k2⟩ := leave_hok (gone := ((List.range H.length).filter fun i => !idx.contains i).map fun h => H.getD h .X) hH hnew s (by
     intro e he
     obtain ⟨i, hi, rfl⟩ := List.mem_map.1 he
     rw [List.mem_filter, List.mem_range] at hi
     refine ⟨⟨_, hH.ents i _ (getD_ent H i hi.1)⟩, fun k hk => ?_⟩
     rintro ⟨j, e', hj, hk'⟩
     obtain ⟨g, h1, hg, rfl⟩ := get j e' hj
     have := hH.apart i g _ _ k (getD_ent H i hi.1) (getD_ent H g hg) hk ((Ent.ren_has _ _ _).1 hk')
     subst this
     have h2 := hi.2
     have h3 := List.mem_of_getElem? h1
     simp only [Bool.not_eq_true', List.contains_eq_mem, decide_eq_false_iff_not] at h2
     exact h2 h3)
   exact ⟨_, _, SV.ren_toV _ _, h, k1, SV.ren_valid _ _ _ _ (SV.valid_step k2 r hr), k2⟩
 . exact h.elim

theorem outK_ok {C : Ctx T} {w : World} {fz : Bool} {n0 : Nat} {K : SV T -> List (Ent T) -> VCT} {r : SV T} {H : List (Ent T)} (h : (outK fz n0 K r H).den) (hH : HOK C H w) (hr : r.valid (Owns H) w) : Frz C H w r K := by
 unfold outK at h
 split at h
 . obtain ⟨r1, H1, h1, h2, h3, h4, h5⟩ := frz_ok r H _ h hH hr
   obtain ⟨r2, H2, g1, g2, g3, g4, g5⟩ := sweep_ok h2 h3 h4
   exact ⟨r2, H2, g1.trans h1, g2, g3, g4, h5.trans g5⟩
 . exact sweep_ok h hH hr

end Go.Vg
/-
 Functions that are read on the spot; the whole of a call.
-/
set_option linter.unusedVariables false
namespace Go.Vg
variable {T : Tys}

def BodyOK (C : Ctx T) (body : Nat -> Option (Func × Ann T)) : Prop := ∀ f fn ann, body f = some (fn, ann) -> C.P.funcs[f]? = some fn /\ (fn.name == "runtime.NumGoroutine") = false /\ fn.body.isSome = true /\ lexF fn = true

def zeroB : List (Seg T) -> Bool
 | [] => true
 | .c (.v x) :: r => x.oneCell' && zeroB r
 | .r _ n l :: r => Nat.beq l.length n && zeroB r
 | _ => false
theorem zeroB_ok (I : Nat -> Prop) (w : World) : ∀ z : List (Seg T), zeroB z = true -> Seg.validL I w z
 | [], _ => trivial
 | .c x :: r, h => by
   cases x with
   | v x =>
     simp only [zeroB, Bool.and_eq_true] at h
     exact ⟨⟨h.1, h.1⟩, zeroB_ok I w r h.2⟩
   | _ => cases h
 | .r e n l :: r, h => by
   simp only [zeroB, Bool.and_eq_true] at h
   exact ⟨Nat.eq_of_beq_eq_true h.1, zeroB_ok I w r h.2⟩
theorem zOK_of {C : Ctx T} (h : ∀ t z, C.zt t = some z -> ((C.P.info? t).bind (·.zero)).map (·.cells.toList) = some (Seg.cellsL z) /\ zeroB z = true) : ZOK C :=
 fun t z hz => ⟨(h t z hz).1, fun I w => zeroB_ok I w z (h t z hz).2⟩
end Go.Vg
/-
 Contracts as records (what a function asks, and what it gives); deferred calls; functions that recover.
-/
set_option linter.unusedVariables false
namespace Go.Vg
variable {T : Tys}

structure Out (T : Tys) (X : Type) where
 Y : X -> Type
 psi : (x : X) -> Y x -> Prop
 res : (x : X) -> Y x -> SV T
 H : (x : X) -> Y x -> List (Ent T)
structure Ctr (T : Tys) where
 X : Type
 find : List (SV T) -> List (Ent T) -> Option X
 phi : X -> Prop
 args : X -> List (SV T)
 H : X -> List (Ent T)
 outs : List (Out T X)
 pans : List (Out T X) := []

def allOut {X : Type} (x : X) (K : SV T -> List (Ent T) -> VCT) : List (Out T X) -> List VCT
 | [] => []
 | o :: r => .all (o.Y x) (fun y => .asm (o.psi x y) (K (o.res x y) (o.H x y))) :: allOut x K r
def andL : List VCT -> VCT
 | [] => .leaf True
 | [a] => a
 | a :: r => .and a (andL r)
def anyOut {X : Type} (x : X) (r : SV T) (H : List (Ent T)) : List (Out T X) -> VCT
 | [] => .ff "an end that is not among the contract's"
 | [o] => .ex (o.Y x) fun y => .fact (o.psi x y) (mSV r (o.res x y) (mH H (o.H x y) (.leaf True)))
 | o :: rest => .or (.ex (o.Y x) fun y => .fact (o.psi x y) (mSV r (o.res x y) (mH H (o.H x y) (.leaf True)))) (anyOut x r H rest)
def Ctr.pt (c : Ctr T) : PT T := fun args H K Kp =>
 match c.find args H with
 | some x => .fact (c.phi x) (mSVL args (c.args x) (mH H (c.H x) (andL (allOut x K c.outs ++ allOut x Kp c.pans))))
 | none => .ff "a contract that does not fit"
def Ctr.ret (c : Ctr T) (x : c.X) (r : SV T) (H : List (Ent T)) : VCT := anyOut x r H c.outs
def Ctr.pan (c : Ctr T) (x : c.X) (r : SV T) (H : List (Ent T)) : VCT := anyOut x r H c.pans

theorem andL_ok : ∀ (l : List VCT), (andL l).den -> ∀ a ∈ l, a.den
 | [], _, a, h => by simp at h
 | [b], hd, a, h => by simp at h; subst h; exact hd
 | b :: c :: r, hd, a, h => by
   rcases List.mem_cons.1 h with rfl | h
   . exact hd.1
   . exact andL_ok (c :: r) hd.2 a h
theorem allOut_ok {X : Type} {x : X} {K : SV T -> List (Ent T) -> VCT} : ∀ (l : List (Out T X)) (o : Out T X), o ∈ l -> (.all (o.Y x) (fun y => .asm (o.psi x y) (K (o.res x y) (o.H x y))) : VCT) ∈ allOut x K l
 | [], o, h => by simp at h
 | p :: r, o, h => by
   rcases List.mem_cons.1 h with rfl | h
   . exact List.mem_cons_self
   . exact List.mem_cons_of_mem _ (allOut_ok r o h)
theorem anyOut_ok {X : Type} {x : X} {r : SV T} {H : List (Ent T)} : ∀ (l : List (Out T X)), (anyOut x r H l).den -> ∃ o ∈ l, ∃ y, o.psi x y /\ (mSV r (o.res x y) (mH H (o.H x y) (.leaf True))).den
 | [], h => h.elim
 | [o], ⟨y, h1, h2⟩ => ⟨o, List.mem_cons_self, y, h1, h2⟩
 | o :: p :: rest, h => by
   rcases h with ⟨y, h1, h2⟩ | h
   . exact ⟨o, List.mem_cons_self, y, h1, h2⟩
   . obtain ⟨q, h1, h2⟩ := anyOut_ok (p :: rest) h
     exact ⟨q, List.mem_cons_of_mem _ h1, h2⟩

theorem ret_ok {C : Ctx T} {w : World} {r res : SV T} {H H' : List (Ent T)} (h : (mSV r res (mH H H' (.leaf True))).den) (hH : HOK C H w) (hr : r.valid (Owns H) w) :
   r.toV = res.toV /\ HOK C H' w /\ res.valid (Owns H') w /\ Stp (Owns H) (Owns H') w w := by
 obtain ⟨h1, h2, h3⟩ := mSV_ok _ _ _ h
 obtain ⟨_, h4, h5⟩ := mH_hok h1 hH
 exact ⟨h2, h4, SV.valid_step h5 _ (h3 _ _ hr), h5⟩

theorem ctr_spec {C : Ctx T} {f : Nat} (c : Ctr T) (he : ∀ args w, (callFunc f args).run C.P w = .ok (.enter f args) w)
   (h : ∀ x, c.phi x -> ∀ w, HInv C (c.args x) (c.H x) w -> Calls C.P f (SV.toVL (c.args x)).toArray w (EndOK C (c.H x) w (c.ret x) (c.pan x))) : SpecOK C f c.pt := by
 refine ⟨he, fun args H K Kp w hp hI => ?_⟩
 unfold Ctr.pt at hp
 split at hp
 . rename_i x hx
   obtain ⟨hphi, hp⟩ := hp
   obtain ⟨hp, ha, hv⟩ := mSVL_ok _ _ _ hp
   obtain ⟨hall, hH1, hs1⟩ := mH_hok hp hI.1
   have hin : HInv C (c.args x) (c.H x) w := ⟨hH1, SV.validL_step hs1 _ (hv _ _ hI.2)⟩
   have hc := h x hphi w hin
   rw [ha]
   refine hc.mono ?_
   rintro e w' (⟨r, H2, rfl, hk, hH2, hr, hst⟩ | ⟨r, H2, rfl, hk, hH2, hr, hst⟩)
   . obtain ⟨o, ho, y, hpsi, hk2⟩ := anyOut_ok _ hk
     obtain ⟨g1, g2, g3, g4⟩ := ret_ok hk2 hH2 hr
     have hk := andL_ok _ hall _ (List.mem_append_left _ (allOut_ok c.outs o ho))
     exact .inl ⟨_, _, by rw [g1], hk y hpsi, g2, g3, (hs1.trans hst).trans g4⟩
   . obtain ⟨o, ho, y, hpsi, hk2⟩ := anyOut_ok _ hk
     obtain ⟨g1, g2, g3, g4⟩ := ret_ok hk2 hH2 hr
     have hk := andL_ok _ hall _ (List.mem_append_right _ (allOut_ok c.pans o ho))
     exact .inr ⟨_, _, by rw [g1], hk y hpsi, g2, g3, (hs1.trans hst).trans g4⟩
 . exact hp.elim

/-! ### Deferred calls -/
structure Dc (T : Tys) where
 f : Nat
 args : List (SV T)
abbrev PTD (T : Tys) := List (SV T) -> List (Ent T) -> Option (SV T) -> (Option (SV T) -> List (Ent T) -> VCT) -> VCT
def modeOf : Option (SV T) -> FrameMode
 | none => .returning
 | some x => .panicking [{ v := x.toV, recovered := false }]
def validO (I : Nat -> Prop) (w : World) : Option (SV T) -> Prop
 | none => True
 | some x => x.valid I w
structure SpecDOK (C : Ctx T) (f : Nat) (pt : PTD T) : Prop where
 enters : ∀ args w, (callFunc f args).run C.P w = .ok (.enter f args) w
 calls : ∀ args H u K w, (pt args H u K).den -> HInv C args H w -> validO (Owns H) w u -> CallsD C.P f (SV.toVL args).toArray (modeOf u) w fun e u' w' =>
   ∃ v u2 H', e = .returned v /\ settle u' = modeOf u2 /\ (K u2 H').den /\ HOK C H' w' /\ validO (Owns H') w' u2 /\ Stp (Owns H) (Owns H') w w'

def leaveD (C : Ctx T) (spd : Nat -> Option (PTD T)) (fn : Func) (K Kp : SV T -> List (Ent T) -> VCT) : List (Dc T) -> St T -> Option (SV T) -> VCT
 | [], S, none => resK C S fn.results.toList fun l => K (tupleOf l) S.H
 | [], S, some x => Kp x S.H
 | d :: ds, S, u => match spd d.f with
   | some pt => pt d.args S.H u fun u' H => leaveD C spd fn K Kp ds { S with H := H } u'
   | none => .ff "a deferred call of a function without a contract"

def DcOK (d : Deferred) (dc : Dc T) : Prop := ∃ captured args, d = { target := .fn (.func dc.f) captured, args := args } /\ args ++ captured = (SV.toVL dc.args).toArray
def DcsOK (I : Nat -> Prop) (w : World) : List Deferred -> List (Dc T) -> Prop
 | [], [] => True
 | d :: ds, dc :: dcs => DcOK d dc /\ SV.validL I w dc.args /\ DcsOK I w ds dcs
 | _, _ => False
theorem DcsOK.step {I I' : Nat -> Prop} {w w' : World} (s : Stp I I' w w') : ∀ (ds : List Deferred) (dcs : List (Dc T)), DcsOK I w ds dcs -> DcsOK I' w' ds dcs
 | [], [], _ => trivial
 | [], _ :: _, h => h.elim
 | _ :: _, [], h => h.elim
 | d :: ds, dc :: dcs, h => ⟨h.1, SV.validL_step s _ h.2.1, DcsOK.step s ds dcs h.2.2⟩

theorem leaveD_ok {C : Ctx T} {spd : Nat -> Option (PTD T)} (hspd : ∀ f pt, spd f = some pt -> SpecDOK C f pt) {fn : Func} {K Kp : SV T -> List (Ent T) -> VCT} {H0 : List (Ent T)} {w0 : World} {a : Act} :
   ∀ (ds : List Deferred) (dcs : List (Dc T)) (S : St T) (u : Option (SV T)) (w : World), (leaveD C spd fn K Kp dcs S u).den -> FrOK S a (Owns S.H) w -> HOK C S.H w -> validO (Owns S.H) w u -> DcsOK (Owns S.H) w ds dcs -> Stp (Owns H0) (Owns S.H) w0 w ->
     Leaves C.P fn a.tmps (EndOK C H0 w0 K Kp) ds (modeOf u) w
 | [], [], S, none, w, h, hS, hH, _, _, hst => by
   obtain ⟨vs, h1, h2, h3⟩ := results_ok hS hH h
   exact ⟨_, h3, .inl ⟨_, _, rfl, h1, hH, tupleOf_valid vs h2, hst⟩⟩
 | [], [], S, some x, w, h, hS, hH, hu, _, hst => .inr ⟨x, _, rfl, h, hH, hu, hst⟩
 | [], _ :: _, S, u, w, h, hS, hH, hu, hd, hst => hd.elim
 | _ :: _, [], S, u, w, h, hS, hH, hu, hd, hst => hd.elim
 | d :: ds, dc :: dcs, S, u, w, h, hS, hH, hu, hd, hst => by
   simp only [leaveD] at h
   split at h
   . rename_i pt hpt
     obtain ⟨⟨captured, args, rfl, hargs⟩, hv, hd⟩ := hd
     obtain ⟨he, hc⟩ := hspd _ _ hpt
     refine leaves_cons (by cases u <;> simp [modeOf]) (f := dc.f) (args := (SV.toVL dc.args).toArray) (by rw [<- hargs]; exact he _ _) ?_
     refine (hc dc.args S.H u _ w h ⟨hH, hv⟩ hu).mono ?_
     rintro e u' w' ⟨v, u2, H', rfl, hset, hk, hH', hu2, hs2⟩
     simp only [hset]
     exact leaveD_ok hspd ds dcs { S with H := H' } u2 w' hk (frOK_H (hS.step hs2) H') hH' hu2 (DcsOK.step hs2 _ _ hd) (hst.trans hs2)
   . exact h.elim

def isDefer (o : Oper) : Bool := match o.op with | .defer _ => true | _ => false
def hasD : Code -> Bool
 | .region _ ops _ => ops.toList.any isDefer
 | .seq a b => hasD a || hasD b
 | .cond _ a b => hasD a || hasD b
 | .block _ b => hasD b
 | .loop b => hasD b
 | .scope b => hasD b
 | _ => false
def deferC (S : St T) (c : Call) : Option (Dc T) := match c.callee with
 | .value (.func f) => match evL S c.args.toList with
   | some args => some ⟨f, args⟩
   | none => none
 | .value g => match S.ev g, evL S c.args.toList with
   | some (.f (.func f) a b), some args => some ⟨f, a ++ args ++ b⟩
   | _, _ => none
 | _ => none
def opsD (C : Ctx T) (sp : Nat -> Option (PT T)) (ops : List Oper) : List Oper -> St T -> (Dc T -> St T -> VCT) -> VCT
 | [], S, K => .ff "no deferred call"
 | [o], S, K => match o.op, o.guard with
   | .defer c, none => match deferC S c with
     | some d => K d (S.set o.dst .un)
     | none => .ff "a deferred call of what?"
   | _, _ => .ff "no deferred call"
 | o :: r, S, K => guardx ops o S (fun S => stx C o S fun y => forceF o.dst (S.set o.dst y) fun S => opsD C sp ops r S K) (fun S => opsD C sp ops r S K)
def walkD (C : Ctx T) (sp : Nat -> Option (PT T)) (ann : Ann T) : Code -> St T -> List (Dc T) -> (Ex T -> St T -> List (Dc T) -> VCT) -> VCT
 | .seq a b, S, D, K => if hasD (.seq a b) then walkD C sp ann a S D fun e S' D' => match e with
     | .normal => walkD C sp ann b S' D' K
     | e => K e S' D'
   else codex C sp ann (.seq a b) S fun e S' => K e S' D
 | .region id ops draw, S, D, K => if hasD (.region id ops draw) then (if draw then .ff "a deferred call in a drawn region" else opsD C sp ops.toList ops.toList S fun d S' => K .normal S' (d :: D))
   else codex C sp ann (.region id ops draw) S fun e S' => K e S' D
 | c, S, D, K => if hasD c then .ff "a deferred call within" else codex C sp ann c S fun e S' => K e S' D
def fnxD (C : Ctx T) (sp : Nat -> Option (PT T)) (spd : Nat -> Option (PTD T)) (ann : Ann T) (fn : Func) (args : List (SV T)) (H : List (Ent T)) (K Kp : SV T -> List (Ent T) -> VCT) : VCT :=
 match fn.body with
 | some c => if args.length <= fn.ntmps then forceSt (start fn args H) fun S0 => walkD C sp ann c S0 [] fun e S' D => match e with
     | .normal | .ret => leaveD C spd fn K Kp D S' none
     | .panic x => leaveD C spd fn K Kp D S' (some x)
     | _ => .ff "an end that is none"
   else .ff "more arguments than slots"
 | none => .ff "no body"

structure LeadD (C : Ctx T) (S S' : St T) (a' : Act) (w w' : World) (D' : List (Dc T)) : Prop where
 fr : FrOK S' a' (Owns S'.H) w'
 H : HOK C S'.H w'
 stp : Stp (Owns S.H) (Owns S'.H) w w'
 dcs : DcsOK (Owns S'.H) w' a'.defers D'
 len : S'.fr.length = S.fr.length
def PostD (C : Ctx T) (K : Ex T -> St T -> List (Dc T) -> VCT) (S : St T) (w : World) : Exit -> Act -> World -> Prop :=
 fun e a' w' => ∃ ex S' D', ExM (Owns S'.H) w' ex e /\ (K ex S' D').den /\ LeadD C S S' a' w w' D'
theorem LeadD.trans {C : Ctx T} {S S1 S2 : St T} {a1 a2 : Act} {w w1 w2 : World} {D1 D2 : List (Dc T)} (h : LeadD C S S1 a1 w w1 D1) (k : LeadD C S1 S2 a2 w1 w2 D2) : LeadD C S S2 a2 w w2 D2 :=
 ⟨k.fr, k.H, h.stp.trans k.stp, k.dcs, k.len.trans h.len⟩
theorem lead_D {C : Ctx T} {ws : List Tmp} {S S' : St T} {a a' : Act} {w w' : World} {D : List (Dc T)} (h : Lead C ws S S' a a' w w') (hd : DcsOK (Owns S.H) w a.defers D) : LeadD C S S' a' w w' D :=
 ⟨h.fr, h.H, h.stp, by rw [h.defers]; exact DcsOK.step h.stp _ _ hd, h.len⟩

theorem deferC_ok {P : Program} {S : St T} {a : Act} {I : Nat -> Prop} {w : World} (hS : FrOK S a I w) {o : Oper} {c : Call} {dc : Dc T} (ho : o.op = .defer c) (h : deferC S c = some dc) :
   ∃ d, (execOp a.eval o).run P w = .ok (.defer d) w /\ DcOK d dc /\ SV.validL I w dc.args := by
 unfold deferC at h
 split at h
 . rename_i f hcal
   split at h
   . rename_i args hargs
     cases h
     obtain ⟨h1, h2⟩ := evL_arr hS hargs
     refine ⟨{ target := .fn (.func f) #[], args := #[] ++ c.args.map a.eval }, ?_, ⟨#[], _, rfl, by rw [h1]; simp⟩, h2⟩
     unfold execOp
     simp only [ho, resolve, hcal]
     rfl
   . cases h
 . rename_i g _ hcal
   split at h
   . rename_i f p q args hg hargs
     cases h
     obtain ⟨h1, h2⟩ := evL_arr hS hargs
     obtain ⟨h3, h4⟩ := ev_ok hS hg
     refine ⟨{ target := .fn (.func f) (SV.toVL q).toArray, args := (SV.toVL p).toArray ++ c.args.map a.eval }, ?_, ⟨_, _, rfl, by rw [h1]; simp [toVL_append]⟩, ?_⟩
     . unfold execOp
       simp only [ho, resolve, hcal, h3, SV.toV, Deferred.ofValue]
       rfl
     . show SV.validL _ _ (p ++ args ++ q)
       rw [sv_validL_append, sv_validL_append]
       exact ⟨⟨h4.1, h2⟩, h4.2⟩
   . cases h
 . cases h

theorem opsD_ok {C : Ctx T} (hz : ZOK C) {sp : Nat -> Option (PT T)} {ops : List Oper} {K : Dc T -> St T -> VCT} : ∀ (l : List Oper) (S : St T) (a : Act) (w : World),
   FrOK S a (Owns S.H) w -> HOK C S.H w -> (opsD C sp ops l S K).den -> ∀ (D : List (Dc T)), DcsOK (Owns S.H) w a.defers D -> ∀ Q : Exit -> Act -> World -> Prop,
   (∀ d S' a' w', (K d S').den -> LeadD C S S' a' w w' (d :: D) -> Q .normal a' w') -> wpList C.P ops.toArray Q l a w := by
 intro l
 induction l with
 | nil => intro S a w hS hH h; exact h.elim
 | cons o r ih =>
   intro S a w hS hH h D hD Q h1
   cases r with
   | nil =>
     simp only [opsD] at h
     split at h
     . rename_i c ho hg
       split at h
       . rename_i d hd
         obtain ⟨df, hr, hdc, hv⟩ := deferC_ok (P := C.P) hS ho hd
         unfold wpList
         rw [if_pos (by simp [Region.wanted, hg])]
         left
         unfold Oper.wp
         rw [hr, Oper.upon_defer]
         have h2 : FrOK (S.set o.dst .un) ({ a with defers := df :: a.defers }.put o.dst undef) (Owns S.H) w := by
           have : FrOK S { a with defers := df :: a.defers } (Owns S.H) w := ⟨hS.size, hS.get⟩
           exact frOK_set this o.dst (x := .un) trivial
         refine h1 d _ _ w h ⟨by rw [set_H]; exact h2, by rw [set_H]; exact hH, by rw [set_H]; exact Stp.refl _ _, ?_, set_len _ _ _⟩
         rw [set_H, put_defers]
         exact ⟨hdc, hv, hD⟩
       . exact h.elim
     . exact h.elim
   | cons o2 r2 =>
     simp only [opsD] at h
     unfold wpList
     rcases guardx_ok hS hH h with ⟨S1, hw, h, hl⟩ | ⟨S1, hw, h, hl⟩
     . rw [if_pos hw]
       left
       refine still_goes (next := fun S' => opsD C sp ops (o2 :: r2) S' K) (pan := fun _ _ => .ff "") hz hl.fr hl.H (by simpa only [forceF_eq] using h) _ _ (fun S' a' w' hn hld => ?_) (fun x S' w' hp => hp.elim)
       have hl' := hl.trans (leads_lead hld)
       refine ih S' a' w' hld.fr hld.H hn D (by rw [hl'.defers]; exact DcsOK.step hl'.stp _ _ hD) Q (fun d S2 a2 w2 hk hl2 => h1 d S2 a2 w2 hk ?_)
       exact (lead_D hl' hD).trans hl2
     . rw [if_neg (by rw [hw]; simp)]
       refine ih S1 _ w hl.fr hl.H h D (by rw [hl.defers]; exact DcsOK.step hl.stp _ _ hD) Q (fun d S2 a2 w2 hk hl2 => h1 d S2 a2 w2 hk ?_)
       exact (lead_D hl hD).trans hl2

theorem walkD_ok {C : Ctx T} (hz : ZOK C) {sp : Nat -> Option (PT T)} (hsp : ∀ f pt, sp f = some pt -> SpecOK C f pt) (hm : C.P.follows .mixedOrders = true) {ann : Ann T} :
   ∀ (c : Code), lexC c = true -> ∀ (S : St T) (D : List (Dc T)) (K : Ex T -> St T -> List (Dc T) -> VCT) (a : Act) (w : World), FrOK S a (Owns S.H) w -> HOK C S.H w -> DcsOK (Owns S.H) w a.defers D -> (walkD C sp ann c S D K).den -> c.wp C.P (PostD C K S w) a w := by
 intro c
 have plain : ∀ (c : Code), lexC c = true -> ∀ (S : St T) (D : List (Dc T)) (K : Ex T -> St T -> List (Dc T) -> VCT) (a : Act) (w : World), FrOK S a (Owns S.H) w -> HOK C S.H w -> DcsOK (Owns S.H) w a.defers D -> (codex C sp ann c S fun e S' => K e S' D).den -> c.wp C.P (PostD C K S w) a w := by
   intro c hlx S D K a w hS hH hD h
   refine wp_mono (codex_ok hz hsp hm c hlx S _ a w hS hH h) ?_
   rintro e a' w' ⟨ex, S', hx, hk, hl⟩
   exact ⟨ex, S', D, hx, hk, lead_D hl hD⟩
 induction c with
 | seq c1 c2 ih1 ih2 =>
   intro hlx S D K a w hS hH hD h
   unfold walkD at h
   split at h
   . simp only [lexC, Bool.and_eq_true] at hlx
     refine wp_seq (wp_mono (ih1 hlx.1 S D _ a w hS hH hD h) ?_)
     rintro e a1 w1 ⟨ex, S1, D1, hx, hk, hl⟩
     cases ex with
     | normal =>
       cases hx
       refine wp_mono (ih2 hlx.2 S1 D1 K a1 w1 hl.fr hl.H hl.dcs hk) ?_
       rintro e2 a2 w2 ⟨ex2, S2, D2, hx2, hk2, hl2⟩
       exact ⟨ex2, S2, D2, hx2, hk2, hl.trans hl2⟩
     | exit i => cases hx; exact ⟨.exit i, S1, D1, rfl, hk, hl⟩
     | goto i => cases hx; exact ⟨.goto i, S1, D1, rfl, hk, hl⟩
     | ret => cases hx; exact ⟨.ret, S1, D1, rfl, hk, hl⟩
     | panic x => obtain ⟨rfl, hx⟩ := hx; exact ⟨.panic x, S1, D1, ⟨rfl, hx⟩, hk, hl⟩
   . exact plain _ hlx S D K a w hS hH hD h
 | region id ops draw =>
   intro hlx S D K a w hS hH hD h
   unfold walkD at h
   split at h
   . split at h
     . exact h.elim
     . rename_i hdraw
       have hdraw : draw = false := by simpa using hdraw
       subst hdraw
       have := opsD_ok hz (sp := sp) ops.toList S a w hS hH h D hD (PostD C K S w) (fun d S' a' w' hk hl => ⟨.normal, S', d :: D, rfl, hk, hl⟩)
       simpa using wp_region_lit (id := id) this
   . exact plain _ hlx S D K a w hS hH hD h
 | _ =>
   intro hlx S D K a w hS hH hD h
   unfold walkD at h
   split at h
   . exact h.elim
   . exact plain _ hlx S D K a w hS hH hD h

theorem fnxD_ok {C : Ctx T} (hz : ZOK C) {sp : Nat -> Option (PT T)} (hsp : ∀ f pt, sp f = some pt -> SpecOK C f pt) {spd : Nat -> Option (PTD T)} (hspd : ∀ f pt, spd f = some pt -> SpecDOK C f pt) (hm : C.P.follows .mixedOrders = true) {ann : Ann T} {f : Nat} {fn : Func} (hf : C.P.funcs[f]? = some fn) (hlx : lexF fn = true)
   {args : List (SV T)} {H : List (Ent T)} {K Kp : SV T -> List (Ent T) -> VCT} {w : World} (h : (fnxD C sp spd ann fn args H K Kp).den) (hI : HInv C args H w) :
   Calls C.P f (SV.toVL args).toArray w (EndOK C H w K Kp) := by
 unfold fnxD at h
 split at h
 . rename_i c hc
   split at h
   case isFalse => exact h.elim
   rename_i hn
   rw [forceSt_eq] at h
   refine calls_of_wp_defers hf hc (wp_mono (walkD_ok hz hsp hm c (by simpa [lexF, hc] using hlx) (start fn args H) [] _ _ w (start_frok hI.2 hn) hI.1 trivial h) ?_)
   rintro e a' w' ⟨ex, S', D, hx, hk, hl⟩
   cases ex with
   | normal => cases hx; exact leaveD_ok hspd _ D S' none w' hk hl.fr hl.H trivial hl.dcs hl.stp
   | ret => cases hx; exact leaveD_ok hspd _ D S' none w' hk hl.fr hl.H trivial hl.dcs hl.stp
   | panic x => obtain ⟨rfl, hx⟩ := hx; exact leaveD_ok hspd _ D S' (some x) w' hk hl.fr hl.H hx hl.dcs hl.stp
   | exit i => exact hk.elim
   | goto i => exact hk.elim
 . exact h.elim
end Go.Vg
/-
 Functions that are deferred: with or without a recovery.
-/
set_option linter.unusedVariables false
namespace Go.Vg
variable {T : Tys}

inductive Rm (T : Tys) where
 | ret
 | pan (x : SV T)
 | recd (x : SV T)
def Rm.mode : Rm T -> FrameMode
 | .ret => .returning
 | .pan x => .panicking [{ v := x.toV, recovered := false }]
 | .recd x => .panicking [{ v := x.toV, recovered := true }]
def Rm.of : Option (SV T) -> Rm T
 | none => .ret
 | some x => .pan x
def Rm.out : Rm T -> Option (SV T)
 | .pan x => some x
 | _ => none
theorem Rm.of_mode (u : Option (SV T)) : (Rm.of u).mode = modeOf u := by cases u <;> rfl
theorem Rm.settle (m : Rm T) : Go.settle m.mode = modeOf m.out := by cases m <;> rfl
def Rm.valid (I : Nat -> Prop) (w : World) : Rm T -> Prop
 | .pan x => x.valid I w
 | _ => True
theorem Rm.valid_out {I : Nat -> Prop} {w : World} (m : Rm T) (h : m.valid I w) : validO I w m.out := by cases m <;> first | trivial | exact h
theorem Rm.valid_step {I I' : Nat -> Prop} {w w' : World} (s : Stp I I' w w') (m : Rm T) (h : m.valid I w) : m.valid I' w' := by cases m <;> first | trivial | exact SV.valid_step s _ h

def isRecover (o : Oper) : Bool := match o.op with
 | .call { callee := .builtin .recover, .. } => true
 | _ => false
def fnxR (C : Ctx T) (sp : Nat -> Option (PT T)) (ann : Ann T) (fn : Func) (args : List (SV T)) (H : List (Ent T)) (u : Option (SV T)) (K : Option (SV T) -> List (Ent T) -> VCT) : VCT :=
 let last : Rm T -> Ex T -> St T -> VCT := fun m e S' => match e with
   | .normal | .ret => resK C S' fn.results.toList fun _ => K m.out S'.H
   | _ => .ff "a deferred call that panics"
 if args.length <= fn.ntmps then match fn.body with
 | some (.seq (.region id ops false) rest) => match ops.toList with
   | o :: r => if isRecover o && o.guard.isNone then match u with
       | some x => opsx C sp ops.toList r ((start fn args H).set o.dst x) (fun S' => codex C sp ann rest S' (last (.recd x))) (fun _ _ => .ff "a deferred call that panics")
       | none => opsx C sp ops.toList r ((start fn args H).set o.dst (.v .nilIface)) (fun S' => codex C sp ann rest S' (last .ret)) (fun _ _ => .ff "a deferred call that panics")
     else codex C sp ann (.seq (.region id ops false) rest) (start fn args H) (last (Rm.of u))
   | [] => .ff "no operations"
 | some (.region id ops false) => match ops.toList with
   | o :: r => if isRecover o && o.guard.isNone then match u with
       | some x => opsx C sp ops.toList r ((start fn args H).set o.dst x) (last (.recd x) .normal) (fun _ _ => .ff "a deferred call that panics")
       | none => opsx C sp ops.toList r ((start fn args H).set o.dst (.v .nilIface)) (last .ret .normal) (fun _ _ => .ff "a deferred call that panics")
     else codex C sp ann (.region id ops false) (start fn args H) (last (Rm.of u))
   | [] => .ff "no operations"
 | some c => codex C sp ann c (start fn args H) (last (Rm.of u))
 | none => .ff "no body"
 else .ff "more arguments than slots"

def wpListS (P : Program) (ops : Array Oper) (Q : Exit -> Act -> List Frame -> World -> Prop) : List Oper -> Act -> List Frame -> World -> Prop
 | [], a, cs, w => Q .normal a cs w
 | o :: rest, a, cs, w =>
     if Region.wanted o (yielded ops a.tmps) then
       match (execOp a.eval o).run P w with
       | .ok .recover w' =>
         match recoverD cs with
         | some (v, cs') => wpListS P ops Q rest (a.put o.dst v) cs' w'
         | none => wpListS P ops Q rest (a.put o.dst .nilIface) cs w'
       | r => o.upon P a (fun a' w' => wpListS P ops Q rest a' cs w') (fun e a' w' => Q e a' cs w') r
     else wpListS P ops Q rest (a.put o.dst undef) cs w
theorem upon_mono {P : Program} {o : Oper} {a : Act} {nx nx' : Act -> World -> Prop} {Q : Exit -> Act -> World -> Prop} (h : ∀ a w, nx a w -> nx' a w) : ∀ r, o.upon P a nx Q r -> o.upon P a nx' Q r := by
 intro r hr
 unfold Oper.upon at hr ⊢
 split at hr
 . exact h _ _ hr
 . exact h _ _ hr
 . exact h _ _ hr
 . refine hr.mono ?_
   intro e w' he
   cases e with
   | returned v => exact h _ _ he
   | panicked c => exact he
   | outgrown => exact he
 . exact Rows.mono hr fun v w' hv => h _ _ hv
 . exact hr
 . exact hr
theorem wpListS_ops {P : Program} {ops : Array Oper} {Q : Exit -> Act -> List Frame -> World -> Prop} : ∀ (n k : Nat) (a : Act) (cs : List Frame) (w : World), k + n = ops.size -> wpListS P ops Q (ops.toList.drop k) a cs w -> wpOpsS P ops Q (List.range' k n) a cs w
 | 0, k, a, cs, w, hk, h => by
   rw [List.drop_eq_nil_of_le (by simp; omega)] at h
   exact h
 | n + 1, k, a, cs, w, hk, h => by
   have hlt : k < ops.toList.length := by simp; omega
   rw [List.drop_eq_getElem_cons hlt] at h
   have ho : ops[k]? = some (ops.toList[k]) := by
     rw [Array.getElem?_eq_getElem (by simpa using hlt)]
     simp
   rw [List.range'_succ]
   simp only [wpOpsS, ho]
   simp only [wpListS] at h
   have ih := fun a cs w => wpListS_ops (P := P) (ops := ops) (Q := Q) n (k + 1) a cs w (by omega)
   split at h
   . rename_i hw
     rw [if_pos hw]
     generalize (execOp a.eval ops.toList[k]).run P w = r at h ⊢
     split at h
     . split at h
       . rename_i v cs' hr
         simp only [hr]
         exact ih _ _ _ h
       . rename_i hr
         simp only [hr]
         exact ih _ _ _ h
     . rename_i hne
       split
       . exact (hne _ rfl).elim
       . exact upon_mono (fun a' w' h' => ih _ _ _ h') _ h
   . rename_i hw
     rw [if_neg hw]
     exact ih _ _ _ h

theorem opsxS_ok {C : Ctx T} (hz : ZOK C) {sp : Nat -> Option (PT T)} (hsp : ∀ f pt, sp f = some pt -> SpecOK C f pt) {ops : List Oper} {K : St T -> VCT} {pan : SV T -> St T -> VCT} {cs : List Frame} : ∀ (l : List Oper) (S : St T) (a : Act) (w : World),
   FrOK S a (Owns S.H) w -> HOK C S.H w -> (opsx C sp ops l S K pan).den -> ∀ Q : Exit -> Act -> List Frame -> World -> Prop,
   (∀ S' a' w', (K S').den -> Lead C (dsts l) S S' a a' w w' -> Q .normal a' cs w') ->
   (∀ x S' a' w', (pan x S').den -> x.valid (Owns S'.H) w' -> Lead C (dsts l) S S' a a' w w' -> Q (.panic [{ v := x.toV, recovered := false }]) a' cs w') -> wpListS C.P ops.toArray Q l a cs w := by
 intro l
 induction l with
 | nil =>
   intro S a w hS hH h Q h1 _
   exact h1 S a w h (Lead.refl _ hS hH rfl rfl)
 | cons o r ih =>
   intro S a w hS hH h Q h1 h2
   simp only [opsx] at h
   rw [dsts_cons] at h1 h2
   unfold wpListS
   rcases guardx_ok hS hH h with ⟨S1, hw, h, hl⟩ | ⟨S1, hw, h, hl⟩
   . rw [if_pos hw]
     rw [forceF_eq] at h
     have hg := opx_ok hz hsp hl.fr hl.H h (fun a' w' => wpListS C.P ops.toArray Q r a' cs w') (fun e a' w' => Q e a' cs w') (fun S' a' w' hn hld => ?_) (fun x S' w' hp hx hf hH' hst => ?_)
     . unfold Oper.wp at hg
       generalize (execOp a.eval o).run C.P w = res at hg ⊢
       split
       . exact hg.elim
       . exact hg
     . rw [forceF_eq, forceM_eq] at hn
       have hl' := hl.trans (leads_lead hld)
       refine ih S' a' w' hld.fr hld.H hn Q (fun S2 a2 w2 hk hl2 => h1 S2 a2 w2 hk ?_) (fun x S2 a2 w2 hp hx hl2 => h2 x S2 a2 w2 hp hx ?_)
       . exact hl'.trans hl2
       . exact hl'.trans hl2
     . exact h2 x S' a w' hp hx ⟨hf, hH', hl.stp.trans hst, rfl, fun _ _ => rfl, by rw [<- hf.size, hS.size]⟩
   . rw [if_neg (by rw [hw]; simp)]
     rw [forceF_eq] at h
     refine ih S1 _ w hl.fr hl.H h Q (fun S2 a2 w2 hk hl2 => h1 S2 a2 w2 hk (hl.trans hl2)) (fun x S2 a2 w2 hp hx hl2 => h2 x S2 a2 w2 hp hx (hl.trans hl2))

theorem recover_run {P : Program} {a : Act} {o : Oper} {w : World} (h : isRecover o = true) : (execOp a.eval o).run P w = .ok .recover w := by
 unfold isRecover at h
 split at h
 . rename_i args ts ho
   rw [builtin_exec _ _ _ _ _ ho]
   rfl
 . cases h

theorem fnxR_ok {C : Ctx T} (hz : ZOK C) {sp : Nat -> Option (PT T)} (hsp : ∀ f pt, sp f = some pt -> SpecOK C f pt) (hm : C.P.follows .mixedOrders = true) {ann : Ann T} {f : Nat} {fn : Func} (hf : C.P.funcs[f]? = some fn)
   (hname : (fn.name == "runtime.NumGoroutine") = false) (hb : fn.body.isSome = true) (hlx : lexF fn = true) : SpecDOK C f (fnxR C sp ann fn) := by
 obtain ⟨c, hc⟩ := Option.isSome_iff_exists.mp hb
 refine ⟨fun args w => MuLone.run_callFunc_enter hf hname hc args w, fun args H u K w h hI hu => ?_⟩
 have hlxc : lexC c = true := by simpa [lexF, hc] using hlx
 unfold fnxR at h
 simp only at h
 split at h
 case isFalse => exact h.elim
 rename_i hn
 have hst := start_frok (fn := fn) hI.2 hn
 have hHst : (start fn args H).H = H := rfl
 -- the end
 have fin : ∀ (m : Rm T) (c₀ : Frame) (cs : List Frame) (e : Exit) (a' : Act) (w' : World) (ex : Ex T) (S' : St T), m.valid (Owns S'.H) w' -> ExM (Owns S'.H) w' ex e -> (match (motive := Ex T -> VCT) ex with
     | .normal | .ret => resK C S' fn.results.toList fun _ => K m.out S'.H
     | _ => .ff "a deferred call that panics").den -> FrOK S' a' (Owns S'.H) w' -> HOK C S'.H w' -> Stp (Owns H) (Owns S'.H) w w' -> a'.defers = [] ->
     bodyPostS C.P fn c₀ cs (fun e u' w' => ∃ v u2 H', e = .returned v /\ settle u' = modeOf u2 /\ (K u2 H').den /\ HOK C H' w' /\ validO (Owns H') w' u2 /\ Stp (Owns H) (Owns H') w w') e a' ({ c₀ with mode := m.mode } :: cs) w' := by
   intro m c₀ cs e a' w' ex S' hmv hx hk hfr hH' hs hd
   cases ex with
   | normal =>
     cases hx
     obtain ⟨vs, h1, h2, h3⟩ := results_ok hfr hH' hk
     exact ⟨hd, m.mode, rfl, _, h3, _, m.out, _, rfl, m.settle, h1, hH', m.valid_out hmv, hs⟩
   | ret =>
     cases hx
     obtain ⟨vs, h1, h2, h3⟩ := results_ok hfr hH' hk
     exact ⟨hd, m.mode, rfl, _, h3, _, m.out, _, rfl, m.settle, h1, hH', m.valid_out hmv, hs⟩
   | _ => exact hk.elim
 -- no recovery
 have plain : ∀ (c : Code), lexC c = true -> (codex C sp ann c (start fn args H) fun e S' => match (motive := Ex T -> VCT) e with
     | .normal | .ret => resK C S' fn.results.toList fun _ => K (Rm.of u).out S'.H
     | _ => .ff "a deferred call that panics").den -> fn.body = some c -> CallsD C.P f (SV.toVL args).toArray (modeOf u) w fun e u' w' => ∃ v u2 H', e = .returned v /\ settle u' = modeOf u2 /\ (K u2 H').den /\ HOK C H' w' /\ validO (Owns H') w' u2 /\ Stp (Owns H) (Owns H') w w' := by
   intro c hlx h hc
   refine callsD_of_wpS hf hc fun c₀ cs hmode => wpS_of_wp (wp_mono (codex_ok hz hsp hm c hlx (start fn args H) _ _ w hst hI.1 h) ?_)
   rintro e a' w' ⟨ex, S', hx, hk, hl⟩
   have e1 : c₀ = { c₀ with mode := (Rm.of u).mode } := by rw [Rm.of_mode, <- hmode]
   rw [e1]
   refine fin (Rm.of u) _ cs e a' w' ex S' ?_ hx hk hl.fr hl.H hl.stp hl.defers
   cases u with
   | none => trivial
   | some x => exact SV.valid_step hl.stp x hu
 -- a recovery
 have first : ∀ (ops : Array Oper) (o : Oper) (r : List Oper) (G : Rm T -> St T -> VCT) (c₀ : Frame) (cs : List Frame) (Q : Exit -> Act -> List Frame -> World -> Prop), c₀.mode = modeOf u -> ops.toList = o :: r -> (isRecover o && o.guard.isNone) = true ->
     (match (motive := Option (SV T) -> VCT) u with
       | some x => opsx C sp ops.toList r ((start fn args H).set o.dst x) (G (.recd x)) (fun _ _ => .ff "a deferred call that panics")
       | none => opsx C sp ops.toList r ((start fn args H).set o.dst (.v .nilIface)) (G .ret) (fun _ _ => .ff "a deferred call that panics")).den ->
     (∀ (m : Rm T) (S' : St T) (a' : Act) (w' : World), m.valid (Owns S'.H) w' -> (G m S').den -> FrOK S' a' (Owns S'.H) w' -> HOK C S'.H w' -> Stp (Owns H) (Owns S'.H) w w' -> a'.defers = [] -> Q .normal a' ({ c₀ with mode := m.mode } :: cs) w') ->
     wpOpsS C.P ops Q (List.range ops.size) { tmps := (SV.toVL args).toArray ++ Array.replicate (fn.ntmps - (SV.toVL args).toArray.size) undef, defers := [] } (c₀ :: cs) w := by
   intro ops o r G c₀ cs Q hmode hol hrec h hq
   rw [Bool.and_eq_true] at hrec
   rw [List.range_eq_range']
   refine wpListS_ops ops.size 0 _ _ w (by omega) ?_
   rw [List.drop_zero, hol]
   unfold wpListS
   have hg : o.guard = none := by cases hh : o.guard <;> simp_all
   rw [if_pos (by simp [Region.wanted, hg]), recover_run hrec.1]
   have harr : ops = ops.toList.toArray := by simp
   cases u with
   | none =>
     have hrd : recoverD (c₀ :: cs) = none := by simp [recoverD, hmode, modeOf]
     simp only [hrd]
     have h2 : FrOK ((start fn args H).set o.dst (.v .nilIface)) (Act.put { tmps := (SV.toVL args).toArray ++ Array.replicate (fn.ntmps - (SV.toVL args).toArray.size) undef, defers := [] } o.dst .nilIface) (Owns H) w := frOK_set hst o.dst (x := .v .nilIface) rfl
     rw [harr]
     refine opsxS_ok hz hsp r _ _ w (by rw [set_H]; exact h2) (by rw [set_H]; exact hI.1) h Q (fun S' a' w' hk hl => ?_) (fun x S' a' w' hp => hp.elim)
     have e1 : c₀ = { c₀ with mode := (Rm.ret (T := T)).mode } := by rw [show (Rm.ret (T := T)).mode = modeOf (T := T) none from rfl, <- hmode]
     rw [e1]
     exact hq .ret S' a' w' trivial hk hl.fr hl.H (by have := hl.stp; rw [set_H] at this; exact this) (by rw [hl.defers, put_defers])
   | some x =>
     have hrd : recoverD (c₀ :: cs) = some (x.toV, { c₀ with mode := .panicking [{ v := x.toV, recovered := true }] } :: cs) := by simp [recoverD, hmode, modeOf]
     simp only [hrd]
     have h2 : FrOK ((start fn args H).set o.dst x) (Act.put { tmps := (SV.toVL args).toArray ++ Array.replicate (fn.ntmps - (SV.toVL args).toArray.size) undef, defers := [] } o.dst x.toV) (Owns H) w := frOK_set hst o.dst hu
     rw [harr]
     refine opsxS_ok hz hsp r _ _ w (by rw [set_H]; exact h2) (by rw [set_H]; exact hI.1) h Q (fun S' a' w' hk hl => ?_) (fun x S' a' w' hp => hp.elim)
     exact hq (.recd x) S' a' w' trivial hk hl.fr hl.H (by have := hl.stp; rw [set_H] at this; exact this) (by rw [hl.defers, put_defers])
 split at h
 . rename_i id ops rest hc'
   rw [hc] at hc'
   cases hc'
   split at h
   . rename_i o r hol
     split at h
     . rename_i hrec
       refine callsD_of_wpS hf hc fun c₀ cs hmode => wpS_seq (wpS_region ?_)
       refine first ops o r (fun m S' => codex C sp ann rest S' fun e S' => match (motive := Ex T -> VCT) e with
         | .normal | .ret => resK C S' fn.results.toList fun _ => K m.out S'.H
         | _ => .ff "a deferred call that panics") c₀ cs _ hmode hol hrec (by cases u <;> exact h) (fun m S' a' w' hmv hk hfr hH' hs hd => ?_)
       simp only [lexC, Bool.and_eq_true] at hlxc
       refine wpS_of_wp (wp_mono (codex_ok hz hsp hm rest hlxc.2 S' _ a' w' hfr hH' hk) ?_)
       rintro e a2 w2 ⟨ex, S2, hx, hk2, hl⟩
       exact fin m c₀ cs e a2 w2 ex S2 (m.valid_step hl.stp hmv) hx hk2 hl.fr hl.H (hs.trans hl.stp) (by rw [hl.defers, hd])
     . exact plain _ hlxc h hc
   . exact h.elim
 . rename_i id ops hc'
   rw [hc] at hc'
   cases hc'
   split at h
   . rename_i o r hol
     split at h
     . rename_i hrec
       refine callsD_of_wpS hf hc fun c₀ cs hmode => wpS_region ?_
       refine first ops o r (fun m S' => resK C S' fn.results.toList fun _ => K m.out S'.H) c₀ cs _ hmode hol hrec (by cases u <;> exact h) (fun m S' a' w' hmv hk hfr hH' hs hd => ?_)
       exact fin m c₀ cs .normal a' w' .normal S' hmv rfl hk hfr hH' hs hd
     . exact plain _ hlxc h hc
   . exact h.elim
 . rename_i c' _ _ hc'
   rw [hc] at hc'
   cases hc'
   exact plain _ hlxc h hc
 . rename_i hc'
   rw [hc] at hc'
   cases hc'
end Go.Vg
/-
 Functions that are read on the spot, those that defer calls too; a whole call over memory of which something is known.
-/
set_option linter.unusedVariables false
namespace Go.Vg
variable {T : Tys}

def hasDF (fn : Func) : Bool := match fn.body with
 | some c => hasD c
 | none => false
def inl (C : Ctx T) (base : Nat -> Option (PT T)) (body : Nat -> Option (Func × Ann T)) : Nat -> Nat -> Option (PT T)
 | 0, f => base f
 | d + 1, f => match base f with
   | some pt => some pt
   | none => match body f with
     | some (fn, ann) => some (cond (hasDF fn)
         (fnxD C (inl C base body d) (fun g => match body g with
           | some (fn, ann) => some (fnxR C (inl C base body d) ann fn)
           | none => none) ann fn)
         (fnx C (inl C base body d) ann fn))
     | none => none
def inlR (C : Ctx T) (base : Nat -> Option (PT T)) (body : Nat -> Option (Func × Ann T)) (d : Nat) (g : Nat) : Option (PTD T) := match body g with
 | some (fn, ann) => some (fnxR C (inl C base body d) ann fn)
 | none => none

theorem specD_fnx {C : Ctx T} (hz : ZOK C) {sp : Nat -> Option (PT T)} (hsp : ∀ f pt, sp f = some pt -> SpecOK C f pt) {spd : Nat -> Option (PTD T)} (hspd : ∀ f pt, spd f = some pt -> SpecDOK C f pt) (hm : C.P.follows .mixedOrders = true) {ann : Ann T} {f : Nat} {fn : Func} (hf : C.P.funcs[f]? = some fn)
   (hname : (fn.name == "runtime.NumGoroutine") = false) (hb : fn.body.isSome = true) (hlx : lexF fn = true) : SpecOK C f (fnxD C sp spd ann fn) := by
 obtain ⟨c, hc⟩ := Option.isSome_iff_exists.mp hb
 exact ⟨fun args w => MuLone.run_callFunc_enter hf hname hc args w, fun args H K Kp w h hI => fnxD_ok hz hsp hspd hm hf hlx h hI⟩

theorem inl_ok {C : Ctx T} (hz : ZOK C) (hm : C.P.follows .mixedOrders = true) {base : Nat -> Option (PT T)} (hbase : ∀ f pt, base f = some pt -> SpecOK C f pt) {body : Nat -> Option (Func × Ann T)} (hbody : BodyOK C body) :
   ∀ (d : Nat) (f : Nat) (pt : PT T), inl C base body d f = some pt -> SpecOK C f pt
 | 0 => hbase
 | d + 1 => by
   intro f pt h
   have ih := inl_ok hz hm hbase hbody d
   unfold inl at h
   split at h
   . rename_i p hp
     cases h
     exact hbase f _ hp
   . split at h
     . rename_i fn ann hb
       cases h
       obtain ⟨h1, h2, h3, h4⟩ := hbody f fn ann hb
       cases hasDF fn with
       | false => exact spec_of_fnx hz ih hm h1 h2 h4 (fun _ _ _ _ h => h) h3
       | true =>
         refine specD_fnx hz ih (fun g pt hg => ?_) hm h1 h2 h3 h4
         split at hg
         . rename_i fn' ann' hb'
           cases hg
           obtain ⟨k1, k2, k3, k4⟩ := hbody g fn' ann' hb'
           exact fnxR_ok hz ih hm k1 k2 k3 k4
         . cases hg
     . cases h
theorem inlR_ok {C : Ctx T} (hz : ZOK C) (hm : C.P.follows .mixedOrders = true) {base : Nat -> Option (PT T)} (hbase : ∀ f pt, base f = some pt -> SpecOK C f pt) {body : Nat -> Option (Func × Ann T)} (hbody : BodyOK C body)
   (d : Nat) (f : Nat) (pt : PTD T) (h : inlR C base body d f = some pt) : SpecDOK C f pt := by
 unfold inlR at h
 split at h
 . rename_i fn ann hb
   cases h
   obtain ⟨h1, h2, h3, h4⟩ := hbody f fn ann hb
   exact fnxR_ok hz (inl_ok hz hm hbase hbody d) hm h1 h2 h3 h4
 . cases h

theorem ctrD_ok {C : Ctx T} (hz : ZOK C) {sp : Nat -> Option (PT T)} (hsp : ∀ f pt, sp f = some pt -> SpecOK C f pt) {spd : Nat -> Option (PTD T)} (hspd : ∀ f pt, spd f = some pt -> SpecDOK C f pt) (hm : C.P.follows .mixedOrders = true) (ann : Ann T) {f : Nat} {fn : Func} (hf : C.P.funcs[f]? = some fn)
   (hname : (fn.name == "runtime.NumGoroutine") = false) (hb : fn.body.isSome = true) (hlx : lexF fn = true) (fz : Bool) (c : Ctr T)
   (h : ∀ x, c.phi x -> Met (fnxD C sp spd ann fn (c.args x) (c.H x) (outK fz (c.H x).length (c.ret x)) (c.pan x))) : SpecOK C f c.pt := by
 obtain ⟨cd, hc⟩ := Option.isSome_iff_exists.mp hb
 refine ctr_spec c (fun args w => MuLone.run_callFunc_enter hf hname hc args w) fun x hx w hI => ?_
 refine (fnxD_ok hz hsp hspd hm hf hlx (h x hx).den hI).mono ?_
 rintro e w' (⟨r, H', rfl, hk, hH', hr, hst⟩ | ⟨r, H', rfl, hk, hH', hr, hst⟩)
 . obtain ⟨r2, H2, g1, g2, g3, g4, g5⟩ := outK_ok hk hH' hr
   exact .inl ⟨r2, H2, by rw [g1], g2, g3, g4, hst.trans g5⟩
 . exact .inr ⟨r, H', rfl, hk, hH', hr, hst⟩

theorem top_known {C : Ctx T} {f : Nat} {pt : PT T} (hs : SpecOK C f pt) (args : List (SV T)) (w : World) (rel : Rel T) (hg : ∀ g v, (g, v) ∈ C.glob -> w.cell? ⟨g, 0, none⟩ = some v /\ v.oneCell' = true /\ g < w.heap.size)
   (hr : ∀ e x l, rel e x l -> roOK (fun _ => False) w e x l) (ha : SV.validL (fun _ => False) w args) (v : Value)
   (hc : Met (pt args [.F (fun _ => none), .R rel] (fun r _ => .leaf (r.toV = v)) (fun _ _ => .ff "it panics"))) :
   Calls C.P f (SV.toVL args).toArray w fun e w' => e = .returned v /\ RowKit.Below w.heap.size w w' := by
 have h := hc.den
 have no : ∀ k, ¬ Owns (T := T) [.F (fun _ => none), .R rel] k := by
   rintro k ⟨i, e, hi, hk⟩
   match i, hi with
   | 0, hi => simp only [List.getElem?_cons_zero, Option.some.injEq] at hi; subst hi; exact hk rfl
   | 1, hi => simp only [List.getElem?_cons_succ, List.getElem?_cons_zero, Option.some.injEq] at hi; subst hi; exact hk
   | i + 2, hi => simp at hi
 have e1 : Owns (T := T) [.F (fun _ => none), .R rel] = fun _ => False := by funext k; simpa using no k
 have hok : HOK C [.F (fun _ => none), .R rel] w := by
   refine ⟨fun i e hi => ?_, fun i j e e' k hi hj hk => (no k ⟨i, e, hi, hk⟩).elim, fun k hk => (no k hk).elim, fun g v hv => ⟨(hg g v hv).1, (hg g v hv).2.1, no g, (hg g v hv).2.2⟩⟩
   match i, hi with
   | 0, hi => simp only [List.getElem?_cons_zero, Option.some.injEq] at hi; subst hi; exact fun k hk => (hk rfl).elim
   | 1, hi => simp only [List.getElem?_cons_succ, List.getElem?_cons_zero, Option.some.injEq] at hi; subst hi; rw [e1]; exact hr
   | i + 2, hi => simp at hi
 refine (hs.calls args _ _ _ w h ⟨hok, by rw [e1]; exact ha⟩).mono ?_
 rintro e w' (⟨r, H', rfl, hk, hH', hr, hst⟩ | ⟨r, H', rfl, hk, hH', hr, hst⟩)
 . refine ⟨by rw [show r.toV = v from hk], ?_⟩
   exact ⟨hst.os, hst.tape, hst.output, hst.size, fun b hb => hst.block b hb (no b)⟩
 . exact hk.elim
end Go.Vg
/-
 The seat's base: how the elements of rows are laid, the pieces of zero values, the program with its known variables.
-/
set_option linter.unusedVariables false
set_option maxRecDepth 100000
open Go Go.Vg Go.Proofs
namespace Pc
structure Sl where
 A : Option Addr
 n : Nat
 cap : Nat
structure Cd where
 sym : Int
 cnt : Int
 len : Int
 val : Int
structure Rg where
 base : Int
 len : Int
structure Pt where
 kind : Int
 v : Int
 n : Int
 s : Sl
structure Mt where
 inn : Int
 out : Int
 blocks : Int
 mode : Int
structure Nd where
 cnt : Int
 n0 : Int
 n1 : Int
 c0 : Value
 c1 : Value
def Sl.val (s : Sl) : Value := .slice s.A s.n s.cap
def EncInt (k : IntKind) : Enc Int where
 enc n := [.int k n]
 dec | [.int k' n] => if k' = k then some n else none
     | _ => none
 sz := 1
 len _ := rfl
 one := by intro x v h; simp at h; subst h; rfl
 dec_ok := by
   intro l x h
   split at h
   . split at h
     . rename_i hk; subst hk; simp at h; subst h; rfl
     . cases h
   . cases h
def EncCode : Enc Cd where
 enc x := [.int .u32 x.sym, .int .u32 x.cnt, .int .u32 x.len, .int .u32 x.val]
 dec | [.int .u32 a, .int .u32 b, .int .u32 c, .int .u32 d] => some ⟨a, b, c, d⟩
     | _ => none
 sz := 4
 len _ := rfl
 one := by intro x v h; simp at h; rcases h with rfl | rfl | rfl | rfl <;> rfl
 dec_ok := by
   intro l x h
   split at h
   . cases h; rfl
   . cases h
def EncRange : Enc Rg where
 enc x := [.int .u32 x.base, .int .u32 x.len]
 dec | [.int .u32 a, .int .u32 b] => some ⟨a, b⟩
     | _ => none
 sz := 2
 len _ := rfl
 one := by intro x v h; simp at h; rcases h with rfl | rfl <;> rfl
 dec_ok := by
   intro l x h
   split at h
   . cases h; rfl
   . cases h
def EncPut : Enc Pt where
 enc x := [.int .i64 x.kind, .int .u64 x.v, .int .u64 x.n, .slice x.s.A x.s.n x.s.cap]
 dec | [.int .i64 a, .int .u64 b, .int .u64 c, .slice A n k] => some ⟨a, b, c, ⟨A, n, k⟩⟩
     | _ => none
 sz := 4
 len _ := rfl
 one := by intro x v h; simp at h; rcases h with rfl | rfl | rfl | rfl <;> rfl
 dec_ok := by
   intro l x h
   split at h
   . cases h; rfl
   . cases h
def EncMeta : Enc Mt where
 enc x := [.int .i64 x.inn, .int .i64 x.out, .int .i64 x.blocks, .int .i64 x.mode]
 dec | [.int .i64 a, .int .i64 b, .int .i64 c, .int .i64 d] => some ⟨a, b, c, d⟩
     | _ => none
 sz := 4
 len _ := rfl
 one := by intro x v h; simp at h; rcases h with rfl | rfl | rfl | rfl <;> rfl
 dec_ok := by
   intro l x h
   split at h
   . cases h; rfl
   . cases h
def EncSl : Enc Sl where
 enc x := [.slice x.A x.n x.cap]
 dec | [.slice A n k] => some ⟨A, n, k⟩
     | _ => none
 sz := 1
 len _ := rfl
 one := by intro x v h; simp at h; subst h; rfl
 dec_ok := by
   intro l x h
   split at h
   . cases h; rfl
   . cases h
def EncStr : Enc ByteArray where
 enc x := [.string x]
 dec | [.string s] => some s
     | _ => none
 sz := 1
 len _ := rfl
 one := by intro x v h; simp at h; subst h; rfl
 dec_ok := by
   intro l x h
   split at h
   . cases h; rfl
   . cases h
def EncNode : Enc Nd where
 enc x := [.int .u32 x.cnt, .int .i64 x.n0, .int .i64 x.n1, if x.c0.oneCell' then x.c0 else .pointer none, if x.c1.oneCell' then x.c1 else .pointer none]
 dec | [.int .u32 a, .int .i64 b, .int .i64 c, .pointer p, .pointer q] => some ⟨a, b, c, .pointer p, .pointer q⟩
     | _ => none
 sz := 5
 len _ := rfl
 one := by
   intro x v h
   simp only [List.mem_cons, List.not_mem_nil, or_false] at h
   rcases h with rfl | rfl | rfl | rfl | rfl
   . rfl
   . rfl
   . rfl
   . split
     . assumption
     . rfl
   . split
     . assumption
     . rfl
 dec_ok := by
   intro l x h
   split at h
   . cases h; rfl
   . cases h
def Pk : Nat -> (α : Type) × Enc α
 | 5 => ⟨Int, EncInt .u8⟩
 | 43 => ⟨Int, EncInt .u32⟩
 | 34 => ⟨Int, EncInt .u64⟩
 | 50 => ⟨Int, EncInt .u64⟩
 | 36 => ⟨Pt, EncPut⟩
 | 90 => ⟨Cd, EncCode⟩
 | 210 => ⟨Cd, EncCode⟩
 | 97 => ⟨Rg, EncRange⟩
 | 215 => ⟨Rg, EncRange⟩
 | 57 => ⟨Mt, EncMeta⟩
 | 23 => ⟨Sl, EncSl⟩
 | 42 => ⟨Sl, EncSl⟩
 | 62 => ⟨Sl, EncSl⟩
 | 9 => ⟨ByteArray, EncStr⟩
 | 222 => ⟨Nd, EncNode⟩
 | _ => ⟨Int, EncInt .i64⟩
def TT : Tys := { El := fun e => (Pk e).1, enc := fun e => (Pk e).2 }
def El (e : Nat) : Type := TT.El e
def nilS : Seg TT := .c (.v (.slice none 0 0))
def i0 (k : IntKind) : Seg TT := .c (.v (.int k 0))
def zt : Nat -> Option (List (Seg TT))
 | 2 => some [i0 .i64]
 | 3 => some [i0 .i64]
 | 4 => some [.c (.v (.bool false))]
 | 5 => some [i0 .u8]
 | 9 => some [.c (.v (.string ⟨#[]⟩))]
 | 22 => some [nilS]
 | 23 => some [nilS]
 | 25 => some [nilS]
 | 26 => some [nilS]
 | 34 => some [i0 .u64]
 | 36 => some [i0 .i64, i0 .u64, i0 .u64, nilS]
 | 42 => some [nilS]
 | 43 => some [i0 .u32]
 | 50 => some [i0 .u64]
 | 57 => some [i0 .i64, i0 .i64, i0 .i64, i0 .i64]
 | 62 => some [nilS]
 | 75 => some [nilS]
 | 76 => some [nilS]
 | 90 => some [i0 .u32, i0 .u32, i0 .u32, i0 .u32]
 | 97 => some [i0 .u32, i0 .u32]
 | 101 => some [.c (.v .nilIface)]
 | 103 => some [.c (.v .nilIface)]
 | 107 => some [i0 .i64, .c (.v .nilIface), .c (.v .nilIface), .c (.v .nilIface), i0 .u64, i0 .u64, .c (.v (.bool false)), nilS, i0 .i64, i0 .u64, .c (.v (.pointer none)), .c (.v (.pointer none)), .c (.v (.pointer none))]
 | 108 => some [i0 .i64, .c (.v .nilIface), .c (.v .nilIface), .c (.v .nilIface), i0 .u64, i0 .u64, .c (.v (.bool false)), nilS, i0 .i64, i0 .u64, .c (.v (.pointer none)), .c (.v (.pointer none)), .c (.v (.pointer none))]
 | 110 => some [.c (.v (.pointer none))]
 | 113 => some [.c (.v (.pointer none))]
 | 123 => some [nilS, i0 .i64, i0 .i8]
 | 128 => some [i0 .i64, .c (.v .nilIface), i0 .u64, i0 .u64, .c (.v (.bool false)), .r 5 512 (List.replicate 512 ((0 : Int) : TT.El 5)), i0 .i64]
 | 130 => some [.c (.v (.pointer none))]
 | 132 => some [nilS, i0 .u32, i0 .u32]
 | 138 => some [nilS]
 | 141 => some [nilS, .r 43 1024 (List.replicate 1024 ((0 : Int) : TT.El 43)), i0 .u64]
 | 135 => some [nilS]
 | 149 => some [.c (.v .nilFunc)]
 | 151 => some [.c (.v .nilIface)]
 | 161 => some [.c (.v (.pointer none))]
 | 163 => some [nilS, i0 .i64, i0 .i64]
 | 165 => some [.c (.v .nilIface)]
 | 167 => some [.c (.v (.pointer none))]
 | 172 => some [i0 .i64, i0 .i64, i0 .i64, i0 .i64, .c (.v (.pointer none)), i0 .i64, .c (.v .nilIface), .c (.v .nilIface), .c (.v .nilIface), i0 .u64, i0 .u64, .c (.v (.bool false)), nilS, i0 .i64, i0 .u64, .c (.v (.pointer none)), .c (.v (.pointer none)), .c (.v (.pointer none)), i0 .i64, .c (.v .nilIface), i0 .u64, i0 .u64, .c (.v (.bool false)), .r 5 512 (List.replicate 512 ((0 : Int) : TT.El 5)), i0 .i64, nilS, i0 .i64, i0 .i8, i0 .i64, nilS, .c (.v .nilIface)]
 | 175 => some [.c (.v (.pointer none))]
 | 180 => some [i0 .i64, i0 .i64, i0 .i64, i0 .i64, .c (.v .nilIface), i0 .i64, .c (.v .nilIface), i0 .u64, i0 .u64, .c (.v (.bool false)), .r 5 512 (List.replicate 512 ((0 : Int) : TT.El 5)), i0 .i64, nilS, i0 .i64, i0 .i8, i0 .i64, i0 .i64, i0 .i64, .r 5 31 (List.replicate 31 ((0 : Int) : TT.El 5)), nilS, .c (.v .nilIface)]
 | 188 => some [.c (.v (.pointer none))]
 | 190 => some [.c (.v (.pointer none)), i0 .i64, nilS, .r 5 512 (List.replicate 512 ((0 : Int) : TT.El 5))]
 | 193 => some [.c (.v (.pointer none)), i0 .i64, nilS, .r 5 512 (List.replicate 512 ((0 : Int) : TT.El 5))]
 | 196 => some [.c (.v .nilIface)]
 | 198 => some [nilS, i0 .i64, i0 .i64]
 | 201 => some [nilS, nilS, i0 .u32, i0 .u32, i0 .u32, i0 .u32, i0 .u32]
 | 210 => some [i0 .u32, i0 .u32, i0 .u32, i0 .u32]
 | 212 => some [nilS]
 | 215 => some [i0 .u32, i0 .u32]
 | 222 => some [i0 .u32, i0 .i64, i0 .i64, .c (.v (.pointer none)), .c (.v (.pointer none))]
 | 223 => some [.r 222 1024 (List.replicate 1024 ((⟨0, 0, 0, .pointer none, .pointer none⟩ : Nd) : TT.El 222))]
 | 224 => some [nilS]
 | 227 => some [.r 43 28 (List.replicate 28 ((0 : Int) : TT.El 43))]
 | 228 => some [.r 34 28 (List.replicate 28 ((0 : Int) : TT.El 34))]
 | 232 => some [.c (.v (.pointer none))]
 | 238 => some [nilS, i0 .i64]
 | 264 => some [.c (.v (.pointer none))]
 | 267 => some [i0 .i64, .c (.v (.string ⟨#[]⟩)), .c (.v (.string ⟨#[]⟩))]
 | 269 => some [.r 210 28 (List.replicate 28 ((⟨0, 0, 0, 0⟩ : Cd) : TT.El 210))]
 | 276 => some [.r 3 19 (List.replicate 19 ((0 : Int) : TT.El 3))]
 | 278 => some [.r 5 256 (List.replicate 256 ((0 : Int) : TT.El 5))]
 | 301 => some [.r 5 32 (List.replicate 32 ((0 : Int) : TT.El 5))]
 | 310 => some [.r 210 4 (List.replicate 4 ((⟨0, 0, 0, 0⟩ : Cd) : TT.El 210))]
 | 337 => some [.r 5 1 (List.replicate 1 ((0 : Int) : TT.El 5))]
 | 20 => some [.c (.v .nilIface)]
 | 99 => some [.c (.v .nilIface)]
 | 125 => some [.c (.v .nilIface)]
 | 199 => some [nilS]
 | 204 => some [.c (.v (.pointer none))]
 | 91 => some [nilS]
 | 225 => some [.c (.v .nilFunc)]
 | _ => none
structure Gl where
 E : Addr
 U : Addr
 S : Addr
def errV (a : Addr) : Value := .iface 313 (.pointer (some a))
noncomputable def CC (G : Gl) : Ctx TT := { P := Tryz.prog, zt := zt, glob := [(0, errV G.E), (2, errV G.U), (3, errV G.S)] }
noncomputable def noAnn : Ann TT := fun _ _ => none
theorem zok (G : Gl) : ZOK (CC G) := zOK_of fun t z h => by
 have h : zt t = some z := h
 unfold zt at h
 split at h <;> first | (cases h; exact ⟨by kernel_rfl, by kernel_rfl⟩) | cases h
theorem mixed (G : Gl) : (CC G).P.follows .mixedOrders = true := by kernel_rfl
end Pc
/-
 Of each function: its text's orders of drawing make no odds; it is the program's.
-/
set_option linter.unusedVariables false
set_option maxRecDepth 100000
open Go Go.Vg Go.Proofs
namespace Pc
abbrev FK (G : Gl) (n : Nat) (fn : Func) : Prop := (CC G).P.funcs[n]? = some fn /\ (fn.name == "runtime.NumGoroutine") = false /\ fn.body.isSome = true /\ lexF fn = true
theorem fk17 (G : Gl) : FK G 17 Tryz.f17 := ⟨Tryz.func17, by kernel_rfl, by kernel_rfl, by kernel_rfl⟩
theorem fk21 (G : Gl) : FK G 21 Tryz.f21 := ⟨Tryz.func21, by kernel_rfl, by kernel_rfl, by kernel_rfl⟩
theorem fk46 (G : Gl) : FK G 46 Tryz.f46 := ⟨Tryz.func46, by kernel_rfl, by kernel_rfl, by kernel_rfl⟩
theorem fk49 (G : Gl) : FK G 49 Tryz.f49 := ⟨Tryz.func49, by kernel_rfl, by kernel_rfl, by kernel_rfl⟩
theorem fk50 (G : Gl) : FK G 50 Tryz.f50 := ⟨Tryz.func50, by kernel_rfl, by kernel_rfl, by kernel_rfl⟩
theorem fk54 (G : Gl) : FK G 54 Tryz.f54 := ⟨Tryz.func54, by kernel_rfl, by kernel_rfl, by kernel_rfl⟩
theorem fk60 (G : Gl) : FK G 60 Tryz.f60 := ⟨Tryz.func60, by kernel_rfl, by kernel_rfl, by kernel_rfl⟩
theorem fk61 (G : Gl) : FK G 61 Tryz.f61 := ⟨Tryz.func61, by kernel_rfl, by kernel_rfl, by kernel_rfl⟩
theorem fk62 (G : Gl) : FK G 62 Tryz.f62 := ⟨Tryz.func62, by kernel_rfl, by kernel_rfl, by kernel_rfl⟩
theorem fk64 (G : Gl) : FK G 64 Tryz.f64 := ⟨Tryz.func64, by kernel_rfl, by kernel_rfl, by kernel_rfl⟩
theorem fk65 (G : Gl) : FK G 65 Tryz.f65 := ⟨Tryz.func65, by kernel_rfl, by kernel_rfl, by kernel_rfl⟩
theorem fk76 (G : Gl) : FK G 76 Tryz.f76 := ⟨Tryz.func76, by kernel_rfl, by kernel_rfl, by kernel_rfl⟩
theorem fk80 (G : Gl) : FK G 80 Tryz.f80 := ⟨Tryz.func80, by kernel_rfl, by kernel_rfl, by kernel_rfl⟩
theorem fk81 (G : Gl) : FK G 81 Tryz.f81 := ⟨Tryz.func81, by kernel_rfl, by kernel_rfl, by kernel_rfl⟩
theorem fk97 (G : Gl) : FK G 97 Tryz.f97 := ⟨Tryz.func97, by kernel_rfl, by kernel_rfl, by kernel_rfl⟩
theorem fk100 (G : Gl) : FK G 100 Tryz.f100 := ⟨Tryz.func100, by kernel_rfl, by kernel_rfl, by kernel_rfl⟩
theorem fk105 (G : Gl) : FK G 105 Tryz.f105 := ⟨Tryz.func105, by kernel_rfl, by kernel_rfl, by kernel_rfl⟩
theorem fk110 (G : Gl) : FK G 110 Tryz.f110 := ⟨Tryz.func110, by kernel_rfl, by kernel_rfl, by kernel_rfl⟩
theorem fk118 (G : Gl) : FK G 118 Tryz.f118 := ⟨Tryz.func118, by kernel_rfl, by kernel_rfl, by kernel_rfl⟩
theorem fk120 (G : Gl) : FK G 120 Tryz.f120 := ⟨Tryz.func120, by kernel_rfl, by kernel_rfl, by kernel_rfl⟩
theorem fk152 (G : Gl) : FK G 152 Tryz.f152 := ⟨Tryz.func152, by kernel_rfl, by kernel_rfl, by kernel_rfl⟩
theorem fk157 (G : Gl) : FK G 157 Tryz.f157 := ⟨Tryz.func157, by kernel_rfl, by kernel_rfl, by kernel_rfl⟩
theorem fk162 (G : Gl) : FK G 162 Tryz.f162 := ⟨Tryz.func162, by kernel_rfl, by kernel_rfl, by kernel_rfl⟩
theorem fk175 (G : Gl) : FK G 175 Tryz.f175 := ⟨Tryz.func175, by kernel_rfl, by kernel_rfl, by kernel_rfl⟩
theorem fk198 (G : Gl) : FK G 198 Tryz.f198 := ⟨Tryz.func198, by kernel_rfl, by kernel_rfl, by kernel_rfl⟩
theorem fk202 (G : Gl) : FK G 202 Tryz.f202 := ⟨Tryz.func202, by kernel_rfl, by kernel_rfl, by kernel_rfl⟩
theorem fk206 (G : Gl) : FK G 206 Tryz.f206 := ⟨Tryz.func206, by kernel_rfl, by kernel_rfl, by kernel_rfl⟩
theorem fk210 (G : Gl) : FK G 210 Tryz.f210 := ⟨Tryz.func210, by kernel_rfl, by kernel_rfl, by kernel_rfl⟩
theorem fk214 (G : Gl) : FK G 214 Tryz.f214 := ⟨Tryz.func214, by kernel_rfl, by kernel_rfl, by kernel_rfl⟩
theorem fk217 (G : Gl) : FK G 217 Tryz.f217 := ⟨Tryz.func217, by kernel_rfl, by kernel_rfl, by kernel_rfl⟩
theorem fk219 (G : Gl) : FK G 219 Tryz.f219 := ⟨Tryz.func219, by kernel_rfl, by kernel_rfl, by kernel_rfl⟩
theorem fk220 (G : Gl) : FK G 220 Tryz.f220 := ⟨Tryz.func220, by kernel_rfl, by kernel_rfl, by kernel_rfl⟩
theorem fk222 (G : Gl) : FK G 222 Tryz.f222 := ⟨Tryz.func222, by kernel_rfl, by kernel_rfl, by kernel_rfl⟩
theorem fk226 (G : Gl) : FK G 226 Tryz.f226 := ⟨Tryz.func226, by kernel_rfl, by kernel_rfl, by kernel_rfl⟩
end Pc
/-
 Of each function: its text's orders of drawing make no odds; it is the program's.
-/
set_option linter.unusedVariables false
set_option maxRecDepth 100000
open Go Go.Vg Go.Proofs
namespace Pc
theorem fk16 (G : Gl) : FK G 16 Tryz.f16 := ⟨Tryz.func16, by kernel_rfl, by kernel_rfl, by kernel_rfl⟩
theorem fk43 (G : Gl) : FK G 43 Tryz.f43 := ⟨Tryz.func43, by kernel_rfl, by kernel_rfl, by kernel_rfl⟩
theorem fk45 (G : Gl) : FK G 45 Tryz.f45 := ⟨Tryz.func45, by kernel_rfl, by kernel_rfl, by kernel_rfl⟩
theorem fk51 (G : Gl) : FK G 51 Tryz.f51 := ⟨Tryz.func51, by kernel_rfl, by kernel_rfl, by kernel_rfl⟩
theorem fk55 (G : Gl) : FK G 55 Tryz.f55 := ⟨Tryz.func55, by kernel_rfl, by kernel_rfl, by kernel_rfl⟩
theorem fk56 (G : Gl) : FK G 56 Tryz.f56 := ⟨Tryz.func56, by kernel_rfl, by kernel_rfl, by kernel_rfl⟩
theorem fk57 (G : Gl) : FK G 57 Tryz.f57 := ⟨Tryz.func57, by kernel_rfl, by kernel_rfl, by kernel_rfl⟩
theorem fk69 (G : Gl) : FK G 69 Tryz.f69 := ⟨Tryz.func69, by kernel_rfl, by kernel_rfl, by kernel_rfl⟩
theorem fk70 (G : Gl) : FK G 70 Tryz.f70 := ⟨Tryz.func70, by kernel_rfl, by kernel_rfl, by kernel_rfl⟩
theorem fk71 (G : Gl) : FK G 71 Tryz.f71 := ⟨Tryz.func71, by kernel_rfl, by kernel_rfl, by kernel_rfl⟩
theorem fk99 (G : Gl) : FK G 99 Tryz.f99 := ⟨Tryz.func99, by kernel_rfl, by kernel_rfl, by kernel_rfl⟩
theorem fk101 (G : Gl) : FK G 101 Tryz.f101 := ⟨Tryz.func101, by kernel_rfl, by kernel_rfl, by kernel_rfl⟩
theorem fk102 (G : Gl) : FK G 102 Tryz.f102 := ⟨Tryz.func102, by kernel_rfl, by kernel_rfl, by kernel_rfl⟩
theorem fk107 (G : Gl) : FK G 107 Tryz.f107 := ⟨Tryz.func107, by kernel_rfl, by kernel_rfl, by kernel_rfl⟩
theorem fk111 (G : Gl) : FK G 111 Tryz.f111 := ⟨Tryz.func111, by kernel_rfl, by kernel_rfl, by kernel_rfl⟩
theorem fk112 (G : Gl) : FK G 112 Tryz.f112 := ⟨Tryz.func112, by kernel_rfl, by kernel_rfl, by kernel_rfl⟩
theorem fk116 (G : Gl) : FK G 116 Tryz.f116 := ⟨Tryz.func116, by kernel_rfl, by kernel_rfl, by kernel_rfl⟩
theorem fk127 (G : Gl) : FK G 127 Tryz.f127 := ⟨Tryz.func127, by kernel_rfl, by kernel_rfl, by kernel_rfl⟩
theorem fk144 (G : Gl) : FK G 144 Tryz.f144 := ⟨Tryz.func144, by kernel_rfl, by kernel_rfl, by kernel_rfl⟩
theorem fk145 (G : Gl) : FK G 145 Tryz.f145 := ⟨Tryz.func145, by kernel_rfl, by kernel_rfl, by kernel_rfl⟩
theorem fk159 (G : Gl) : FK G 159 Tryz.f159 := ⟨Tryz.func159, by kernel_rfl, by kernel_rfl, by kernel_rfl⟩
theorem fk160 (G : Gl) : FK G 160 Tryz.f160 := ⟨Tryz.func160, by kernel_rfl, by kernel_rfl, by kernel_rfl⟩
theorem fk161 (G : Gl) : FK G 161 Tryz.f161 := ⟨Tryz.func161, by kernel_rfl, by kernel_rfl, by kernel_rfl⟩
theorem fk200 (G : Gl) : FK G 200 Tryz.f200 := ⟨Tryz.func200, by kernel_rfl, by kernel_rfl, by kernel_rfl⟩
theorem fk207 (G : Gl) : FK G 207 Tryz.f207 := ⟨Tryz.func207, by kernel_rfl, by kernel_rfl, by kernel_rfl⟩
theorem fk208 (G : Gl) : FK G 208 Tryz.f208 := ⟨Tryz.func208, by kernel_rfl, by kernel_rfl, by kernel_rfl⟩
theorem fk213 (G : Gl) : FK G 213 Tryz.f213 := ⟨Tryz.func213, by kernel_rfl, by kernel_rfl, by kernel_rfl⟩
theorem fk218 (G : Gl) : FK G 218 Tryz.f218 := ⟨Tryz.func218, by kernel_rfl, by kernel_rfl, by kernel_rfl⟩
theorem fk223 (G : Gl) : FK G 223 Tryz.f223 := ⟨Tryz.func223, by kernel_rfl, by kernel_rfl, by kernel_rfl⟩
theorem fk224 (G : Gl) : FK G 224 Tryz.f224 := ⟨Tryz.func224, by kernel_rfl, by kernel_rfl, by kernel_rfl⟩
theorem fk227 (G : Gl) : FK G 227 Tryz.f227 := ⟨Tryz.func227, by kernel_rfl, by kernel_rfl, by kernel_rfl⟩
theorem fk229 (G : Gl) : FK G 229 Tryz.f229 := ⟨Tryz.func229, by kernel_rfl, by kernel_rfl, by kernel_rfl⟩
theorem fk230 (G : Gl) : FK G 230 Tryz.f230 := ⟨Tryz.func230, by kernel_rfl, by kernel_rfl, by kernel_rfl⟩
end Pc
/-
 Of each function: its text's orders of drawing make no odds; it is the program's.
-/
set_option linter.unusedVariables false
set_option maxRecDepth 100000
open Go Go.Vg Go.Proofs
namespace Pc
theorem fk20 (G : Gl) : FK G 20 Tryz.f20 := ⟨Tryz.func20, by kernel_rfl, by kernel_rfl, by kernel_rfl⟩
theorem fk24 (G : Gl) : FK G 24 Tryz.f24 := ⟨Tryz.func24, by kernel_rfl, by kernel_rfl, by kernel_rfl⟩
theorem fk44 (G : Gl) : FK G 44 Tryz.f44 := ⟨Tryz.func44, by kernel_rfl, by kernel_rfl, by kernel_rfl⟩
theorem fk47 (G : Gl) : FK G 47 Tryz.f47 := ⟨Tryz.func47, by kernel_rfl, by kernel_rfl, by kernel_rfl⟩
theorem fk48 (G : Gl) : FK G 48 Tryz.f48 := ⟨Tryz.func48, by kernel_rfl, by kernel_rfl, by kernel_rfl⟩
theorem fk52 (G : Gl) : FK G 52 Tryz.f52 := ⟨Tryz.func52, by kernel_rfl, by kernel_rfl, by kernel_rfl⟩
theorem fk53 (G : Gl) : FK G 53 Tryz.f53 := ⟨Tryz.func53, by kernel_rfl, by kernel_rfl, by kernel_rfl⟩
theorem fk59 (G : Gl) : FK G 59 Tryz.f59 := ⟨Tryz.func59, by kernel_rfl, by kernel_rfl, by kernel_rfl⟩
theorem fk67 (G : Gl) : FK G 67 Tryz.f67 := ⟨Tryz.func67, by kernel_rfl, by kernel_rfl, by kernel_rfl⟩
theorem fk68 (G : Gl) : FK G 68 Tryz.f68 := ⟨Tryz.func68, by kernel_rfl, by kernel_rfl, by kernel_rfl⟩
theorem fk72 (G : Gl) : FK G 72 Tryz.f72 := ⟨Tryz.func72, by kernel_rfl, by kernel_rfl, by kernel_rfl⟩
theorem fk89 (G : Gl) : FK G 89 Tryz.f89 := ⟨Tryz.func89, by kernel_rfl, by kernel_rfl, by kernel_rfl⟩
theorem fk98 (G : Gl) : FK G 98 Tryz.f98 := ⟨Tryz.func98, by kernel_rfl, by kernel_rfl, by kernel_rfl⟩
theorem fk109 (G : Gl) : FK G 109 Tryz.f109 := ⟨Tryz.func109, by kernel_rfl, by kernel_rfl, by kernel_rfl⟩
theorem fk113 (G : Gl) : FK G 113 Tryz.f113 := ⟨Tryz.func113, by kernel_rfl, by kernel_rfl, by kernel_rfl⟩
theorem fk115 (G : Gl) : FK G 115 Tryz.f115 := ⟨Tryz.func115, by kernel_rfl, by kernel_rfl, by kernel_rfl⟩
theorem fk121 (G : Gl) : FK G 121 Tryz.f121 := ⟨Tryz.func121, by kernel_rfl, by kernel_rfl, by kernel_rfl⟩
theorem fk125 (G : Gl) : FK G 125 Tryz.f125 := ⟨Tryz.func125, by kernel_rfl, by kernel_rfl, by kernel_rfl⟩
theorem fk138 (G : Gl) : FK G 138 Tryz.f138 := ⟨Tryz.func138, by kernel_rfl, by kernel_rfl, by kernel_rfl⟩
theorem fk143 (G : Gl) : FK G 143 Tryz.f143 := ⟨Tryz.func143, by kernel_rfl, by kernel_rfl, by kernel_rfl⟩
theorem fk147 (G : Gl) : FK G 147 Tryz.f147 := ⟨Tryz.func147, by kernel_rfl, by kernel_rfl, by kernel_rfl⟩
theorem fk148 (G : Gl) : FK G 148 Tryz.f148 := ⟨Tryz.func148, by kernel_rfl, by kernel_rfl, by kernel_rfl⟩
theorem fk150 (G : Gl) : FK G 150 Tryz.f150 := ⟨Tryz.func150, by kernel_rfl, by kernel_rfl, by kernel_rfl⟩
theorem fk151 (G : Gl) : FK G 151 Tryz.f151 := ⟨Tryz.func151, by kernel_rfl, by kernel_rfl, by kernel_rfl⟩
theorem fk154 (G : Gl) : FK G 154 Tryz.f154 := ⟨Tryz.func154, by kernel_rfl, by kernel_rfl, by kernel_rfl⟩
theorem fk156 (G : Gl) : FK G 156 Tryz.f156 := ⟨Tryz.func156, by kernel_rfl, by kernel_rfl, by kernel_rfl⟩
theorem fk163 (G : Gl) : FK G 163 Tryz.f163 := ⟨Tryz.func163, by kernel_rfl, by kernel_rfl, by kernel_rfl⟩
theorem fk164 (G : Gl) : FK G 164 Tryz.f164 := ⟨Tryz.func164, by kernel_rfl, by kernel_rfl, by kernel_rfl⟩
theorem fk165 (G : Gl) : FK G 165 Tryz.f165 := ⟨Tryz.func165, by kernel_rfl, by kernel_rfl, by kernel_rfl⟩
theorem fk199 (G : Gl) : FK G 199 Tryz.f199 := ⟨Tryz.func199, by kernel_rfl, by kernel_rfl, by kernel_rfl⟩
theorem fk203 (G : Gl) : FK G 203 Tryz.f203 := ⟨Tryz.func203, by kernel_rfl, by kernel_rfl, by kernel_rfl⟩
theorem fk212 (G : Gl) : FK G 212 Tryz.f212 := ⟨Tryz.func212, by kernel_rfl, by kernel_rfl, by kernel_rfl⟩
theorem fk215 (G : Gl) : FK G 215 Tryz.f215 := ⟨Tryz.func215, by kernel_rfl, by kernel_rfl, by kernel_rfl⟩
end Pc
/-
 Of each function: its text's orders of drawing make no odds; it is the program's.
-/
set_option linter.unusedVariables false
set_option maxRecDepth 100000
open Go Go.Vg Go.Proofs
namespace Pc
theorem fk5 (G : Gl) : FK G 5 Tryz.f5 := ⟨Tryz.func5, by kernel_rfl, by kernel_rfl, by kernel_rfl⟩
theorem fk18 (G : Gl) : FK G 18 Tryz.f18 := ⟨Tryz.func18, by kernel_rfl, by kernel_rfl, by kernel_rfl⟩
theorem fk19 (G : Gl) : FK G 19 Tryz.f19 := ⟨Tryz.func19, by kernel_rfl, by kernel_rfl, by kernel_rfl⟩
theorem fk25 (G : Gl) : FK G 25 Tryz.f25 := ⟨Tryz.func25, by kernel_rfl, by kernel_rfl, by kernel_rfl⟩
theorem fk28 (G : Gl) : FK G 28 Tryz.f28 := ⟨Tryz.func28, by kernel_rfl, by kernel_rfl, by kernel_rfl⟩
theorem fk58 (G : Gl) : FK G 58 Tryz.f58 := ⟨Tryz.func58, by kernel_rfl, by kernel_rfl, by kernel_rfl⟩
theorem fk63 (G : Gl) : FK G 63 Tryz.f63 := ⟨Tryz.func63, by kernel_rfl, by kernel_rfl, by kernel_rfl⟩
theorem fk66 (G : Gl) : FK G 66 Tryz.f66 := ⟨Tryz.func66, by kernel_rfl, by kernel_rfl, by kernel_rfl⟩
theorem fk75 (G : Gl) : FK G 75 Tryz.f75 := ⟨Tryz.func75, by kernel_rfl, by kernel_rfl, by kernel_rfl⟩
theorem fk77 (G : Gl) : FK G 77 Tryz.f77 := ⟨Tryz.func77, by kernel_rfl, by kernel_rfl, by kernel_rfl⟩
theorem fk84 (G : Gl) : FK G 84 Tryz.f84 := ⟨Tryz.func84, by kernel_rfl, by kernel_rfl, by kernel_rfl⟩
theorem fk103 (G : Gl) : FK G 103 Tryz.f103 := ⟨Tryz.func103, by kernel_rfl, by kernel_rfl, by kernel_rfl⟩
theorem fk104 (G : Gl) : FK G 104 Tryz.f104 := ⟨Tryz.func104, by kernel_rfl, by kernel_rfl, by kernel_rfl⟩
theorem fk106 (G : Gl) : FK G 106 Tryz.f106 := ⟨Tryz.func106, by kernel_rfl, by kernel_rfl, by kernel_rfl⟩
theorem fk108 (G : Gl) : FK G 108 Tryz.f108 := ⟨Tryz.func108, by kernel_rfl, by kernel_rfl, by kernel_rfl⟩
theorem fk114 (G : Gl) : FK G 114 Tryz.f114 := ⟨Tryz.func114, by kernel_rfl, by kernel_rfl, by kernel_rfl⟩
theorem fk117 (G : Gl) : FK G 117 Tryz.f117 := ⟨Tryz.func117, by kernel_rfl, by kernel_rfl, by kernel_rfl⟩
theorem fk119 (G : Gl) : FK G 119 Tryz.f119 := ⟨Tryz.func119, by kernel_rfl, by kernel_rfl, by kernel_rfl⟩
theorem fk124 (G : Gl) : FK G 124 Tryz.f124 := ⟨Tryz.func124, by kernel_rfl, by kernel_rfl, by kernel_rfl⟩
theorem fk139 (G : Gl) : FK G 139 Tryz.f139 := ⟨Tryz.func139, by kernel_rfl, by kernel_rfl, by kernel_rfl⟩
theorem fk140 (G : Gl) : FK G 140 Tryz.f140 := ⟨Tryz.func140, by kernel_rfl, by kernel_rfl, by kernel_rfl⟩
theorem fk142 (G : Gl) : FK G 142 Tryz.f142 := ⟨Tryz.func142, by kernel_rfl, by kernel_rfl, by kernel_rfl⟩
theorem fk146 (G : Gl) : FK G 146 Tryz.f146 := ⟨Tryz.func146, by kernel_rfl, by kernel_rfl, by kernel_rfl⟩
theorem fk153 (G : Gl) : FK G 153 Tryz.f153 := ⟨Tryz.func153, by kernel_rfl, by kernel_rfl, by kernel_rfl⟩
theorem fk155 (G : Gl) : FK G 155 Tryz.f155 := ⟨Tryz.func155, by kernel_rfl, by kernel_rfl, by kernel_rfl⟩
theorem fk166 (G : Gl) : FK G 166 Tryz.f166 := ⟨Tryz.func166, by kernel_rfl, by kernel_rfl, by kernel_rfl⟩
theorem fk201 (G : Gl) : FK G 201 Tryz.f201 := ⟨Tryz.func201, by kernel_rfl, by kernel_rfl, by kernel_rfl⟩
theorem fk205 (G : Gl) : FK G 205 Tryz.f205 := ⟨Tryz.func205, by kernel_rfl, by kernel_rfl, by kernel_rfl⟩
theorem fk209 (G : Gl) : FK G 209 Tryz.f209 := ⟨Tryz.func209, by kernel_rfl, by kernel_rfl, by kernel_rfl⟩
theorem fk211 (G : Gl) : FK G 211 Tryz.f211 := ⟨Tryz.func211, by kernel_rfl, by kernel_rfl, by kernel_rfl⟩
theorem fk216 (G : Gl) : FK G 216 Tryz.f216 := ⟨Tryz.func216, by kernel_rfl, by kernel_rfl, by kernel_rfl⟩
theorem fk221 (G : Gl) : FK G 221 Tryz.f221 := ⟨Tryz.func221, by kernel_rfl, by kernel_rfl, by kernel_rfl⟩
theorem fk225 (G : Gl) : FK G 225 Tryz.f225 := ⟨Tryz.func225, by kernel_rfl, by kernel_rfl, by kernel_rfl⟩
theorem fk228 (G : Gl) : FK G 228 Tryz.f228 := ⟨Tryz.func228, by kernel_rfl, by kernel_rfl, by kernel_rfl⟩
end Pc
/-
 The program's functions by their numbers.
-/
set_option linter.unusedVariables false
set_option maxRecDepth 100000
open Go Go.Vg Go.Proofs
namespace Pc
noncomputable def fnOf0 : Nat -> Option Func
 | 5 => some Tryz.f5
 | 16 => some Tryz.f16
 | 17 => some Tryz.f17
 | 18 => some Tryz.f18
 | 19 => some Tryz.f19
 | 20 => some Tryz.f20
 | 21 => some Tryz.f21
 | 24 => some Tryz.f24
 | 25 => some Tryz.f25
 | 28 => some Tryz.f28
 | 43 => some Tryz.f43
 | 44 => some Tryz.f44
 | 45 => some Tryz.f45
 | 46 => some Tryz.f46
 | 47 => some Tryz.f47
 | 48 => some Tryz.f48
 | 49 => some Tryz.f49
 | 50 => some Tryz.f50
 | 51 => some Tryz.f51
 | 52 => some Tryz.f52
 | _ => none
theorem fnOk0 (G : Gl) (n : Nat) (fn : Func) (h : fnOf0 n = some fn) : FK G n fn := by
 unfold fnOf0 at h
 split at h
 . cases h; exact fk5 G
 . cases h; exact fk16 G
 . cases h; exact fk17 G
 . cases h; exact fk18 G
 . cases h; exact fk19 G
 . cases h; exact fk20 G
 . cases h; exact fk21 G
 . cases h; exact fk24 G
 . cases h; exact fk25 G
 . cases h; exact fk28 G
 . cases h; exact fk43 G
 . cases h; exact fk44 G
 . cases h; exact fk45 G
 . cases h; exact fk46 G
 . cases h; exact fk47 G
 . cases h; exact fk48 G
 . cases h; exact fk49 G
 . cases h; exact fk50 G
 . cases h; exact fk51 G
 . cases h; exact fk52 G
 . cases h
noncomputable def fnOf1 : Nat -> Option Func
 | 53 => some Tryz.f53
 | 54 => some Tryz.f54
 | 55 => some Tryz.f55
 | 56 => some Tryz.f56
 | 57 => some Tryz.f57
 | 58 => some Tryz.f58
 | 59 => some Tryz.f59
 | 60 => some Tryz.f60
 | 61 => some Tryz.f61
 | 62 => some Tryz.f62
 | 63 => some Tryz.f63
 | 64 => some Tryz.f64
 | 65 => some Tryz.f65
 | 66 => some Tryz.f66
 | 67 => some Tryz.f67
 | 68 => some Tryz.f68
 | 69 => some Tryz.f69
 | 70 => some Tryz.f70
 | 71 => some Tryz.f71
 | 72 => some Tryz.f72
 | _ => none
theorem fnOk1 (G : Gl) (n : Nat) (fn : Func) (h : fnOf1 n = some fn) : FK G n fn := by
 unfold fnOf1 at h
 split at h
 . cases h; exact fk53 G
 . cases h; exact fk54 G
 . cases h; exact fk55 G
 . cases h; exact fk56 G
 . cases h; exact fk57 G
 . cases h; exact fk58 G
 . cases h; exact fk59 G
 . cases h; exact fk60 G
 . cases h; exact fk61 G
 . cases h; exact fk62 G
 . cases h; exact fk63 G
 . cases h; exact fk64 G
 . cases h; exact fk65 G
 . cases h; exact fk66 G
 . cases h; exact fk67 G
 . cases h; exact fk68 G
 . cases h; exact fk69 G
 . cases h; exact fk70 G
 . cases h; exact fk71 G
 . cases h; exact fk72 G
 . cases h
noncomputable def fnOf2 : Nat -> Option Func
 | 75 => some Tryz.f75
 | 76 => some Tryz.f76
 | 77 => some Tryz.f77
 | 80 => some Tryz.f80
 | 81 => some Tryz.f81
 | 84 => some Tryz.f84
 | 89 => some Tryz.f89
 | 97 => some Tryz.f97
 | 98 => some Tryz.f98
 | 99 => some Tryz.f99
 | 100 => some Tryz.f100
 | 101 => some Tryz.f101
 | 102 => some Tryz.f102
 | 103 => some Tryz.f103
 | 104 => some Tryz.f104
 | 105 => some Tryz.f105
 | 106 => some Tryz.f106
 | 107 => some Tryz.f107
 | 108 => some Tryz.f108
 | 109 => some Tryz.f109
 | _ => none
theorem fnOk2 (G : Gl) (n : Nat) (fn : Func) (h : fnOf2 n = some fn) : FK G n fn := by
 unfold fnOf2 at h
 split at h
 . cases h; exact fk75 G
 . cases h; exact fk76 G
 . cases h; exact fk77 G
 . cases h; exact fk80 G
 . cases h; exact fk81 G
 . cases h; exact fk84 G
 . cases h; exact fk89 G
 . cases h; exact fk97 G
 . cases h; exact fk98 G
 . cases h; exact fk99 G
 . cases h; exact fk100 G
 . cases h; exact fk101 G
 . cases h; exact fk102 G
 . cases h; exact fk103 G
 . cases h; exact fk104 G
 . cases h; exact fk105 G
 . cases h; exact fk106 G
 . cases h; exact fk107 G
 . cases h; exact fk108 G
 . cases h; exact fk109 G
 . cases h
noncomputable def fnOf3 : Nat -> Option Func
 | 110 => some Tryz.f110
 | 111 => some Tryz.f111
 | 112 => some Tryz.f112
 | 113 => some Tryz.f113
 | 114 => some Tryz.f114
 | 115 => some Tryz.f115
 | 116 => some Tryz.f116
 | 117 => some Tryz.f117
 | 118 => some Tryz.f118
 | 119 => some Tryz.f119
 | 120 => some Tryz.f120
 | 121 => some Tryz.f121
 | 124 => some Tryz.f124
 | 125 => some Tryz.f125
 | 127 => some Tryz.f127
 | 138 => some Tryz.f138
 | 139 => some Tryz.f139
 | 140 => some Tryz.f140
 | 142 => some Tryz.f142
 | 143 => some Tryz.f143
 | _ => none
theorem fnOk3 (G : Gl) (n : Nat) (fn : Func) (h : fnOf3 n = some fn) : FK G n fn := by
 unfold fnOf3 at h
 split at h
 . cases h; exact fk110 G
 . cases h; exact fk111 G
 . cases h; exact fk112 G
 . cases h; exact fk113 G
 . cases h; exact fk114 G
 . cases h; exact fk115 G
 . cases h; exact fk116 G
 . cases h; exact fk117 G
 . cases h; exact fk118 G
 . cases h; exact fk119 G
 . cases h; exact fk120 G
 . cases h; exact fk121 G
 . cases h; exact fk124 G
 . cases h; exact fk125 G
 . cases h; exact fk127 G
 . cases h; exact fk138 G
 . cases h; exact fk139 G
 . cases h; exact fk140 G
 . cases h; exact fk142 G
 . cases h; exact fk143 G
 . cases h
noncomputable def fnOf4 : Nat -> Option Func
 | 144 => some Tryz.f144
 | 145 => some Tryz.f145
 | 146 => some Tryz.f146
 | 147 => some Tryz.f147
 | 148 => some Tryz.f148
 | 150 => some Tryz.f150
 | 151 => some Tryz.f151
 | 152 => some Tryz.f152
 | 153 => some Tryz.f153
 | 154 => some Tryz.f154
 | 155 => some Tryz.f155
 | 156 => some Tryz.f156
 | 157 => some Tryz.f157
 | 159 => some Tryz.f159
 | 160 => some Tryz.f160
 | 161 => some Tryz.f161
 | 162 => some Tryz.f162
 | 163 => some Tryz.f163
 | 164 => some Tryz.f164
 | 165 => some Tryz.f165
 | _ => none
theorem fnOk4 (G : Gl) (n : Nat) (fn : Func) (h : fnOf4 n = some fn) : FK G n fn := by
 unfold fnOf4 at h
 split at h
 . cases h; exact fk144 G
 . cases h; exact fk145 G
 . cases h; exact fk146 G
 . cases h; exact fk147 G
 . cases h; exact fk148 G
 . cases h; exact fk150 G
 . cases h; exact fk151 G
 . cases h; exact fk152 G
 . cases h; exact fk153 G
 . cases h; exact fk154 G
 . cases h; exact fk155 G
 . cases h; exact fk156 G
 . cases h; exact fk157 G
 . cases h; exact fk159 G
 . cases h; exact fk160 G
 . cases h; exact fk161 G
 . cases h; exact fk162 G
 . cases h; exact fk163 G
 . cases h; exact fk164 G
 . cases h; exact fk165 G
 . cases h
noncomputable def fnOf5 : Nat -> Option Func
 | 166 => some Tryz.f166
 | 175 => some Tryz.f175
 | 198 => some Tryz.f198
 | 199 => some Tryz.f199
 | 200 => some Tryz.f200
 | 201 => some Tryz.f201
 | 202 => some Tryz.f202
 | 203 => some Tryz.f203
 | 205 => some Tryz.f205
 | 206 => some Tryz.f206
 | 207 => some Tryz.f207
 | 208 => some Tryz.f208
 | 209 => some Tryz.f209
 | 210 => some Tryz.f210
 | 211 => some Tryz.f211
 | 212 => some Tryz.f212
 | 213 => some Tryz.f213
 | 214 => some Tryz.f214
 | 215 => some Tryz.f215
 | 216 => some Tryz.f216
 | _ => none
theorem fnOk5 (G : Gl) (n : Nat) (fn : Func) (h : fnOf5 n = some fn) : FK G n fn := by
 unfold fnOf5 at h
 split at h
 . cases h; exact fk166 G
 . cases h; exact fk175 G
 . cases h; exact fk198 G
 . cases h; exact fk199 G
 . cases h; exact fk200 G
 . cases h; exact fk201 G
 . cases h; exact fk202 G
 . cases h; exact fk203 G
 . cases h; exact fk205 G
 . cases h; exact fk206 G
 . cases h; exact fk207 G
 . cases h; exact fk208 G
 . cases h; exact fk209 G
 . cases h; exact fk210 G
 . cases h; exact fk211 G
 . cases h; exact fk212 G
 . cases h; exact fk213 G
 . cases h; exact fk214 G
 . cases h; exact fk215 G
 . cases h; exact fk216 G
 . cases h
noncomputable def fnOf6 : Nat -> Option Func
 | 217 => some Tryz.f217
 | 218 => some Tryz.f218
 | 219 => some Tryz.f219
 | 220 => some Tryz.f220
 | 221 => some Tryz.f221
 | 222 => some Tryz.f222
 | 223 => some Tryz.f223
 | 224 => some Tryz.f224
 | 225 => some Tryz.f225
 | 226 => some Tryz.f226
 | 227 => some Tryz.f227
 | 228 => some Tryz.f228
 | 229 => some Tryz.f229
 | 230 => some Tryz.f230
 | _ => none
theorem fnOk6 (G : Gl) (n : Nat) (fn : Func) (h : fnOf6 n = some fn) : FK G n fn := by
 unfold fnOf6 at h
 split at h
 . cases h; exact fk217 G
 . cases h; exact fk218 G
 . cases h; exact fk219 G
 . cases h; exact fk220 G
 . cases h; exact fk221 G
 . cases h; exact fk222 G
 . cases h; exact fk223 G
 . cases h; exact fk224 G
 . cases h; exact fk225 G
 . cases h; exact fk226 G
 . cases h; exact fk227 G
 . cases h; exact fk228 G
 . cases h; exact fk229 G
 . cases h; exact fk230 G
 . cases h
noncomputable def fnOf (n : Nat) : Option Func := cond (Nat.ble n 52) (fnOf0 n) (cond (Nat.ble n 72) (fnOf1 n) (cond (Nat.ble n 109) (fnOf2 n) (cond (Nat.ble n 143) (fnOf3 n) (cond (Nat.ble n 165) (fnOf4 n) (cond (Nat.ble n 216) (fnOf5 n) (fnOf6 n))))))
theorem fnOf_ok (G : Gl) (n : Nat) (fn : Func) (h : fnOf n = some fn) : FK G n fn := by
 unfold fnOf at h
 cases h0 : Nat.ble n 52 with
 | true => rw [h0] at h; exact fnOk0 G n fn h
 | false =>
 rw [h0] at h; simp only [cond] at h
 cases h1 : Nat.ble n 72 with
 | true => rw [h1] at h; exact fnOk1 G n fn h
 | false =>
 rw [h1] at h; simp only [cond] at h
 cases h2 : Nat.ble n 109 with
 | true => rw [h2] at h; exact fnOk2 G n fn h
 | false =>
 rw [h2] at h; simp only [cond] at h
 cases h3 : Nat.ble n 143 with
 | true => rw [h3] at h; exact fnOk3 G n fn h
 | false =>
 rw [h3] at h; simp only [cond] at h
 cases h4 : Nat.ble n 165 with
 | true => rw [h4] at h; exact fnOk4 G n fn h
 | false =>
 rw [h4] at h; simp only [cond] at h
 cases h5 : Nat.ble n 216 with
 | true => rw [h5] at h; exact fnOk5 G n fn h
 | false =>
 rw [h5] at h; simp only [cond] at h
 exact fnOk6 G n fn h
/-- Functions' texts, with what is claimed at their loops. -/
noncomputable def bodyW (ann : Nat -> Ann TT) (n : Nat) : Option (Func × Ann TT) := match fnOf n with
 | some fn => some (fn, ann n)
 | none => none
theorem bodyW_ok (G : Gl) (ann : Nat -> Ann TT) : BodyOK (CC G) (bodyW ann) := by
 intro f fn a h
 unfold bodyW at h
 split at h
 . rename_i fn' hf
   cases h
   exact fnOf_ok G f _ hf
 . cases h
def no : Nat -> Option (PT TT) := fun _ => none
end Pc
/-
 Arguments that are handed over for good: a row of one's own is frozen ahead of the call.
-/
set_option linter.unusedVariables false
namespace Go.Vg
variable {T : Tys}
def givL : List Bool -> List (SV T) -> List (Ent T) -> (List (SV T) -> List (Ent T) -> VCT) -> VCT
 | [], xs, H, k => k xs H
 | _ :: _, [], H, k => k [] H
 | b :: bs, x :: r, H, k => if b then frz x H fun y H => givL bs r H fun ys H => k (y :: ys) H else givL bs r H fun ys H => k (x :: ys) H
theorem givL_ok {C : Ctx T} {w : World} : ∀ (bs : List Bool) (xs : List (SV T)) (H : List (Ent T)) (k : List (SV T) -> List (Ent T) -> VCT), (givL bs xs H k).den -> HOK C H w -> SV.validL (Owns H) w xs ->
   ∃ ys H', SV.toVL ys = SV.toVL xs /\ (k ys H').den /\ HOK C H' w /\ SV.validL (Owns H') w ys /\ Stp (Owns H) (Owns H') w w
 | [], xs, H, k, hk, hH, hx => ⟨xs, H, rfl, hk, hH, hx, Stp.refl _ _⟩
 | _ :: _, [], H, k, hk, hH, hx => ⟨[], H, rfl, hk, hH, trivial, Stp.refl _ _⟩
 | b :: bs, x :: r, H, k, hk, hH, hx => by
   unfold givL at hk
   split at hk
   . obtain ⟨y, H1, h1, h2, h3, h4, h5⟩ := frz_ok x H _ hk hH hx.1
     obtain ⟨ys, H2, g1, g2, g3, g4, g5⟩ := givL_ok bs r H1 _ h2 h3 (SV.validL_step h5 r hx.2)
     exact ⟨y :: ys, H2, by simp only [SV.toVL, h1, g1], g2, g3, ⟨SV.valid_step g5 y h4, g4⟩, h5.trans g5⟩
   . obtain ⟨ys, H2, g1, g2, g3, g4, g5⟩ := givL_ok bs r H _ hk hH hx.2
     exact ⟨x :: ys, H2, by simp only [SV.toVL, g1], g2, g3, ⟨SV.valid_step g5 x hx.1, g4⟩, g5⟩
def giv (bs : List Bool) (pt : PT T) : PT T := fun args H K Kp => givL bs args H fun a H => pt a H K Kp
theorem giv_ok {C : Ctx T} {f : Nat} {pt : PT T} (hs : SpecOK C f pt) (bs : List Bool) : SpecOK C f (giv bs pt) := by
 refine ⟨hs.enters, fun args H K Kp w hp hI => ?_⟩
 obtain ⟨ys, H2, g1, g2, g3, g4, g5⟩ := givL_ok bs args H _ hp hI.1 hI.2
 rw [<- g1]
 refine (hs.calls ys H2 K Kp w g2 ⟨g3, g4⟩).mono ?_
 rintro e w' (⟨r, H', he, hk, hH', hr, hst⟩ | ⟨r, H', he, hk, hH', hr, hst⟩)
 . exact .inl ⟨r, H', he, hk, hH', hr, g5.trans hst⟩
 . exact .inr ⟨r, H', he, hk, hH', hr, g5.trans hst⟩
theorem ctr_okX {C : Ctx T} (hz : ZOK C) {sp : Nat -> Option (PT T)} (hsp : ∀ f pt, sp f = some pt -> SpecOK C f pt) (hm : C.P.follows .mixedOrders = true) {f : Nat} {fn : Func} (hf : C.P.funcs[f]? = some fn)
   (hname : (fn.name == "runtime.NumGoroutine") = false) (hb : fn.body.isSome = true) (hlx : lexF fn = true) (fz : Bool) (c : Ctr T) (ann : c.X -> Ann T)
   (h : ∀ x, c.phi x -> Met (fnx C sp (ann x) fn (c.args x) (c.H x) (outK fz (c.H x).length (c.ret x)) (c.pan x))) : SpecOK C f c.pt := by
 obtain ⟨cd, hc⟩ := Option.isSome_iff_exists.mp hb
 refine ctr_spec c (fun args w => MuLone.run_callFunc_enter hf hname hc args w) fun x hx w hI => ?_
 refine (fnx_ok hz hsp hm hf hlx (h x hx).den hI).mono ?_
 rintro e w' (⟨r, H', rfl, hk, hH', hr, hst⟩ | ⟨r, H', rfl, hk, hH', hr, hst⟩)
 . obtain ⟨r2, H2, g1, g2, g3, g4, g5⟩ := outK_ok hk hH' hr
   exact .inl ⟨r2, H2, by rw [g1], g2, g3, g4, hst.trans g5⟩
 . exact .inr ⟨r, H', rfl, hk, hH', hr, hst⟩
def exPT {α : Type} (pt : α -> PT T) : PT T := fun args H K Kp => .ex α fun g => pt g args H K Kp
theorem exPT_ok {C : Ctx T} {f : Nat} {α : Type} (a : α) {pt : α -> PT T} (h : ∀ g, SpecOK C f (pt g)) : SpecOK C f (exPT pt) :=
 ⟨(h a).enters, fun args H K Kp w hp hI => by
   obtain ⟨g, hp⟩ := hp
   exact (h g).calls args H K Kp w hp hI⟩
end Go.Vg
/-
 Numbers as the program reckons them, in Lean's natural numbers.
-/
set_option linter.unusedVariables false
open Go Go.Vg
namespace Pc
theorem wr8 (n : Int) : IntKind.u8.wrap n = n % 256 := by simp [IntKind.wrap, IntKind.bits, IntKind.signed]
theorem wr32 (n : Int) : IntKind.u32.wrap n = n % 4294967296 := by simp [IntKind.wrap, IntKind.bits, IntKind.signed]
theorem wr64 (n : Int) : IntKind.u64.wrap n = n % 18446744073709551616 := by simp [IntKind.wrap, IntKind.bits, IntKind.signed]
theorem wrU {k : IntKind} (h : k.signed = false) (n : Int) : k.wrap n = n % (2 ^ k.bits : Int) := by simp [IntKind.wrap, h]
theorem wrN {k : IntKind} (h : k.signed = false) (n : Nat) : k.wrap (n : Int) = ((n % 2 ^ k.bits : Nat) : Int) := by
 rw [wrU h]; simp [Int.natCast_emod]
theorem wrId {k : IntKind} (h : k.signed = false) {n : Nat} (hn : n < 2 ^ k.bits) : k.wrap (n : Int) = (n : Int) := by
 rw [wrN h, Nat.mod_eq_of_lt hn]
theorem shrN (k : IntKind) (a n : Nat) : shrI k (a : Int) (n : Int) = ((a / 2 ^ (min n k.bits) : Nat) : Int) := by
 unfold shrI
 rw [Int.toNat_natCast, Int.fdiv_eq_ediv_of_nonneg _ (by exact Int.le_of_lt (Int.pow_pos (by decide)))]
 simp [Int.natCast_ediv]
theorem shlN {k : IntKind} (h : k.signed = false) (a n : Nat) : shlI k (a : Int) (n : Int) = ((a * 2 ^ (min n k.bits) % 2 ^ k.bits : Nat) : Int) := by
 unfold shlI
 rw [Int.toNat_natCast, wrU h]
 simp [Int.natCast_emod]
theorem bvN (k : IntKind) (a : Nat) : (BitVec.ofInt k.bits (a : Int)).toNat = a % 2 ^ k.bits := by
 simp
theorem andN {k : IntKind} (h : k.signed = false) {a b : Nat} (ha : a < 2 ^ k.bits) (hb : b < 2 ^ k.bits) : bitI .and k (a : Int) (b : Int) = ((a &&& b : Nat) : Int) := by
 unfold bitI
 simp only [BitVec.toNat_and, bvN, Nat.mod_eq_of_lt ha, Nat.mod_eq_of_lt hb]
 exact wrId h (Nat.lt_of_le_of_lt Nat.and_le_left ha)
theorem orN {k : IntKind} (h : k.signed = false) {a b : Nat} (ha : a < 2 ^ k.bits) (hb : b < 2 ^ k.bits) : bitI .or k (a : Int) (b : Int) = ((a ||| b : Nat) : Int) := by
 unfold bitI
 simp only [BitVec.toNat_or, bvN, Nat.mod_eq_of_lt ha, Nat.mod_eq_of_lt hb]
 exact wrId h (Nat.or_lt_two_pow ha hb)
def bt (v k : Nat) : Nat := v / 2 ^ k % 2
theorem bt_lt (v k : Nat) : bt v k < 2 := Nat.mod_lt _ (by decide)
theorem bt_test (v k : Nat) : bt v k = (v.testBit k).toNat := by
 unfold bt
 rw [Nat.testBit_eq_decide_div_mod_eq]
 have := Nat.mod_lt (v / 2 ^ k) (show 2 > 0 by decide)
 rcases Nat.mod_two_eq_zero_or_one (v / 2 ^ k) with h | h <;> simp [h]
theorem and_one (a : Nat) : a &&& 1 = a % 2 := Nat.and_one_is_mod a
end Pc
/-
 What the reference computes, in plain Lean: canonical codes, bits of bytes, reading.
-/
set_option linter.unusedVariables false
open Go Go.Vg
namespace Pc
def rev (v : Nat) : Nat -> Nat
 | 0 => 0
 | n + 1 => 2 * rev v n + bt v n
def nx : List Nat -> Nat -> Nat -> Nat
 | [], _, _ => 0
 | l :: r, n, i => (if l < n then 2 ^ (n - l) else if l = n /\ 0 < i then 1 else 0) + nx r n (i - 1)
def kraft : List Nat -> Nat
 | [] => 0
 | l :: r => 2 ^ (20 - l) + kraft r
structure Good (lens : List Nat) : Prop where
 two : 2 <= lens.length
 sixty : lens.length <= 60
 pos : ∀ l ∈ lens, 1 <= l /\ l <= 20
 whole : kraft lens = 2 ^ 20
def outL (lens : List Nat) (n i : Nat) : List Cd := lens.mapIdx fun (j l : Nat) => ⟨j, 0, l, if l < n \/ (l = n /\ j < i) then (rev (nx lens l j) l : Nat) else 0⟩
def canonL (lens : List Nat) : List Cd := lens.mapIdx fun (j l : Nat) => ⟨j, 0, l, (rev (nx lens l j) l : Nat)⟩
def linedL (lens : List Nat) : List Cd := lens.mapIdx fun (j l : Nat) => ⟨j, 0, l, 0⟩
def ints (l : List Nat) : List Int := l.map fun (n : Nat) => (n : Int)
def rgL : Nat -> List Nat -> List Rg
 | _, [] => []
 | b, l :: r => ⟨b, l⟩ :: rgL (b + 2 ^ l) r
def byteBits (big : Bool) (v : Nat) : List Nat := (List.range 8).map fun k => bt v (if big then 7 - k else k)
def bitsOf (big : Bool) (bs : List Nat) : List Nat := bs.flatMap (byteBits big)
def numL : List Nat -> Nat
 | [] => 0
 | b :: r => b + 2 * numL r
theorem ints_get {l : List Nat} {i : Nat} {x : Int} (h : (ints l)[i]? = some x) : ∃ n, l[i]? = some n /\ x = (n : Int) := by
 unfold ints at h
 rw [List.getElem?_map, Option.map_eq_some_iff] at h
 obtain ⟨n, h1, h2⟩ := h
 exact ⟨n, h1, h2.symm⟩
theorem ints_len (l : List Nat) : (ints l).length = l.length := by simp [ints]
theorem rev_lt (v : Nat) : ∀ n, rev v n < 2 ^ n
 | 0 => by simp [rev]
 | n + 1 => by
   have := rev_lt v n
   have := bt_lt v n
   simp only [rev, Nat.pow_succ]
   omega
theorem nx_next : ∀ (l : List Nat) (n : Nat), nx l (n + 1) 0 = 2 * nx l n l.length
 | [], n => rfl
 | l :: r, n => by
   have ih := nx_next r n
   simp only [nx, List.length_cons, Nat.add_sub_cancel, Nat.zero_sub, ih]
   by_cases h : l < n
   . rw [if_pos (by omega), if_pos h, show n + 1 - l = (n - l) + 1 by omega, Nat.pow_succ]
     omega
   . by_cases h2 : l = n
     . subst h2
       rw [if_pos (by omega), if_neg (by omega), if_pos ⟨rfl, by omega⟩]
       have : l + 1 - l = 1 := by omega
       rw [this]
       omega
     . rw [if_neg (by omega), if_neg (by omega), if_neg h, if_neg (by omega)]
       omega
theorem nx_succ : ∀ (l : List Nat) (n i : Nat), i < l.length -> nx l n (i + 1) = nx l n i + (if l.getD i 0 = n then 1 else 0)
 | [], n, i, h => by simp at h
 | l :: r, n, 0, h => by
   simp only [nx, List.getD_cons_zero, Nat.zero_add, Nat.sub_self, Nat.zero_sub]
   by_cases h1 : l < n
   . rw [if_pos h1, if_pos h1, if_neg (by omega)]; omega
   . rw [if_neg h1, if_neg h1]
     by_cases h2 : l = n
     . simp [h2]; omega
     . simp [h2]
 | l :: r, n, i + 1, h => by
   have ih := nx_succ r n i (by simpa using h)
   simp only [nx, List.getD_cons_succ, Nat.add_sub_cancel, ih]
   by_cases h1 : l < n
   . rw [if_pos h1, if_pos h1]; omega
   . rw [if_neg h1, if_neg h1]
     simp
     omega
theorem nx_le : ∀ (l : List Nat) (n i : Nat), (∀ x ∈ l, x <= 20) -> n <= 20 -> nx l n i * 2 ^ (20 - n) <= kraft l
 | [], n, i, _, _ => by simp [nx, kraft]
 | l :: r, n, i, h, hn => by
   have ih := nx_le r n (i - 1) (fun x hx => h x (List.mem_cons_of_mem _ hx)) hn
   have hl := h l List.mem_cons_self
   simp only [nx, kraft, Nat.add_mul]
   have : (if l < n then 2 ^ (n - l) else if l = n /\ 0 < i then 1 else 0) * 2 ^ (20 - n) <= 2 ^ (20 - l) := by
     by_cases h1 : l < n
     . rw [if_pos h1, <- Nat.pow_add, show n - l + (20 - n) = 20 - l by omega]
       exact Nat.le_refl _
     . rw [if_neg h1]
       by_cases h2 : l = n /\ 0 < i
       . rw [if_pos h2, h2.1]; simp
       . rw [if_neg h2]; simp
   omega
theorem nx_bound {lens : List Nat} (h : Good lens) {n i : Nat} (hn : n <= 20) : nx lens n i <= 2 ^ n := by
 have h1 := nx_le lens n i (fun x hx => (h.pos x hx).2) hn
 rw [h.whole] at h1
 have h2 : (2 : Nat) ^ 20 = 2 ^ n * 2 ^ (20 - n) := by rw [<- Nat.pow_add]; congr 1; omega
 rw [h2] at h1
 exact Nat.le_of_mul_le_mul_right h1 (Nat.pow_pos (by decide))
end Pc
/-
 How conditions are taken apart.
-/
set_option linter.unusedVariables false
open Go Go.Vg
namespace Pc
abbrev Rf {α : Sort _} (a : α) : Prop := a = a
abbrev Rz : Prop := (0 : Int) = 0
abbrev Rn : Prop := Value.slice none 0 0 = Value.slice none 0 0
abbrev Ro : Prop := Off.lit 0 = Off.lit 0
abbrev Rl (r : Rel TT) : Prop := relLe r r
theorem br_d {p : Prop} [Decidable p] {a b : Prop} : Br (decide p) a b ↔ (p -> a) /\ (¬ p -> b) := by
 by_cases h : p <;> simp [Br, h]
theorem br_i {x y : Int} {a b : Prop} : Br (x == y) a b ↔ (x = y -> a) /\ (x ≠ y -> b) := by
 have : (x == y) = decide (x = y) := rfl
 rw [this]
 exact br_d
theorem br_n {t : Bool} {a b : Prop} : Br (!t) a b ↔ Br t b a := by
 cases t <;> simp [Br]
theorem rel_self {T : Tys} (m : Rel T) : relLe m m ↔ True := ⟨fun _ => trivial, fun _ => relLe.refl m⟩
theorem rel_add {T : Tys} (m : Rel T) (e : TypeId) (x : Value) (l : List (T.El e)) : relLe m (relAdd m e x l) ↔ True := ⟨fun _ => trivial, fun _ => relLe.add m e x l⟩
theorem noteS_le {T : Tys} : ∀ (segs : List (Seg T)) (rel : Rel T), relLe rel (noteS segs rel)
 | [], rel => relLe.refl _
 | a :: r, rel => by
   unfold noteS
   split
   . rename_i h; cases h
   . rename_i h; cases h
     exact (relLe.add1 _ _ _ _).trans (noteS_le _ _)
   . rename_i h; cases h
     exact noteS_le _ _
theorem linedL_len (l : List Nat) : (linedL l).length = l.length := by simp [linedL]
theorem outL_len (l : List Nat) (n i : Nat) : (outL l n i).length = l.length := by simp [outL]
theorem canonL_len (l : List Nat) : (canonL l).length = l.length := by simp [canonL]
theorem rgL_len : ∀ (l : List Nat) (b : Nat), (rgL b l).length = l.length
 | [], b => rfl
 | _ :: r, b => by simp [rgL, rgL_len r]
theorem ints_nats {l : List Int} (h : ∀ x ∈ l, 0 <= x) : ints (l.map Int.toNat) = l := by
 unfold ints
 rw [List.map_map]
 exact (List.map_congr_left fun x hx => by simp only [Function.comp, Int.toNat_of_nonneg (h x hx)]; rfl).trans (List.map_id _)
theorem nats_ints (l : List Nat) : (ints l).map Int.toNat = l := by
 unfold ints
 rw [List.map_map]
 exact (List.map_congr_left fun x hx => by simp).trans (List.map_id _)
theorem linedL_get {l : List Nat} {i : Nat} {c : Cd} (h : (linedL l)[i]? = some c) : ∃ n : Nat, l[i]? = some n /\ c = ⟨i, 0, n, 0⟩ := by
 unfold linedL at h
 rw [List.getElem?_mapIdx, Option.map_eq_some_iff] at h
 obtain ⟨n, h1, h2⟩ := h
 exact ⟨n, h1, h2.symm⟩
theorem canonL_get {l : List Nat} {j : Nat} {c : Cd} (h : (canonL l)[j]? = some c) : ∃ k : Nat, l[j]? = some k /\ c = ⟨j, 0, k, (rev (nx l k j) k : Nat)⟩ := by
 unfold canonL at h
 rw [List.getElem?_mapIdx, Option.map_eq_some_iff] at h
 obtain ⟨n, h1, h2⟩ := h
 exact ⟨n, h1, h2.symm⟩
theorem outL_get {l : List Nat} {n i j : Nat} {c : Cd} (h : (outL l n i)[j]? = some c) : ∃ k : Nat, l[j]? = some k /\ c = ⟨j, 0, k, if k < n \/ (k = n /\ j < i) then (rev (nx l k j) k : Nat) else 0⟩ := by
 unfold outL at h
 rw [List.getElem?_mapIdx, Option.map_eq_some_iff] at h
 obtain ⟨n, h1, h2⟩ := h
 exact ⟨n, h1, h2.symm⟩
theorem take_succ {α : Type} {l : List α} {i : Nat} {x : α} (h : l[i]? = some x) : l.take (i + 1) = l.take i ++ [x] := by
 rw [List.take_add_one, h]; rfl
theorem kraft_app : ∀ (a b : List Nat), kraft (a ++ b) = kraft a + kraft b
 | [], b => by simp [kraft]
 | x :: a, b => by simp only [List.cons_append, kraft, kraft_app a b]; omega
theorem kraft_take_succ {l : List Nat} {i n : Nat} (h : l[i]? = some n) : kraft (l.take (i + 1)) = kraft (l.take i) + 2 ^ (20 - n) := by
 rw [take_succ h, kraft_app]; simp [kraft]
theorem kraft_le : ∀ l : List Nat, kraft l <= l.length * 2 ^ 20
 | [] => Nat.zero_le _
 | x :: r => by
   have := kraft_le r
   have : (2 : Nat) ^ (20 - x) <= 2 ^ 20 := Nat.pow_le_pow_right (by decide) (by omega)
   simp only [kraft, List.length_cons, Nat.add_mul, Nat.one_mul]
   omega
def sum2 : List Nat -> Nat
 | [] => 0
 | l :: r => 2 ^ l + sum2 r
theorem linedL_next {l : List Nat} {i n : Nat} (h : l[i]? = some n) : linedL (l.take (i + 1)) = linedL (l.take i) ++ [Cd.mk i 0 n 0] := by
 rw [take_succ h]
 unfold linedL
 rw [List.mapIdx_append]
 have hi : i <= l.length := by have := (List.getElem?_eq_some_iff.1 h).1; omega
 simp [List.length_take, Nat.min_eq_left hi]
theorem rgL_app : ∀ (a c : List Nat) (b : Nat), rgL b (a ++ c) = rgL b a ++ rgL (b + sum2 a) c
 | [], c, b => by simp [rgL, sum2]
 | x :: a, c, b => by simp [rgL, sum2, rgL_app a c, Nat.add_assoc]
theorem rgL_next {l : List Nat} {i n : Nat} (h : l[i]? = some n) : rgL 0 (l.take (i + 1)) = rgL 0 (l.take i) ++ [Rg.mk (sum2 (l.take i)) n] := by
 rw [take_succ h, rgL_app]; simp [rgL]
theorem sum2_app : ∀ (a b : List Nat), sum2 (a ++ b) = sum2 a + sum2 b
 | [], b => by simp [sum2]
 | x :: a, b => by simp only [List.cons_append, sum2, sum2_app a b]; omega
theorem sum2_next {l : List Nat} {i n : Nat} (h : l[i]? = some n) : sum2 (l.take (i + 1)) = sum2 (l.take i) + 2 ^ n := by
 rw [take_succ h, sum2_app]; simp [sum2]
theorem sum2_le : ∀ l : List Nat, (∀ x ∈ l, x <= 20) -> sum2 l <= l.length * 2 ^ 20
 | [], _ => Nat.zero_le _
 | x :: r, h => by
   have := sum2_le r fun y hy => h y (List.mem_cons_of_mem _ hy)
   have : (2 : Nat) ^ x <= 2 ^ 20 := Nat.pow_le_pow_right (by decide) (h x List.mem_cons_self)
   simp only [sum2, List.length_cons, Nat.add_mul, Nat.one_mul]
   omega
theorem nx_zero : ∀ {l : List Nat} {i : Nat}, (∀ x ∈ l, 1 <= x /\ x <= 20) -> nx l 0 i = 0
 | [], _, _ => rfl
 | x :: r, i, h => by
   have := nx_zero (l := r) (i := i - 1) fun y hy => h y (List.mem_cons_of_mem _ hy)
   have hx := h x List.mem_cons_self
   simp only [nx, this]
   rw [if_neg (by omega), if_neg (by omega)]
theorem mapIdx_congr' {α β : Type} {l : List α} {f g : Nat -> α -> β} (h : ∀ i a, l[i]? = some a -> f i a = g i a) : l.mapIdx f = l.mapIdx g := by
 refine List.ext_getElem? fun i => ?_
 rw [List.getElem?_mapIdx, List.getElem?_mapIdx]
 cases hi : l[i]? with
 | none => rfl
 | some a => exact congrArg some (h i a hi)
theorem outL_one {l : List Nat} (h : ∀ x ∈ l, 1 <= x /\ x <= 20) : outL l 1 0 = linedL l := by
 unfold outL linedL
 refine mapIdx_congr' fun i a ha => ?_
 have := h a (List.mem_of_getElem? ha)
 rw [if_neg (by omega)]
theorem outL_end {l : List Nat} {n : Nat} (hn : 20 < n) (h : ∀ x ∈ l, 1 <= x /\ x <= 20) : outL l n 0 = canonL l := by
 unfold outL canonL
 refine mapIdx_congr' fun i a ha => ?_
 have := h a (List.mem_of_getElem? ha)
 rw [if_pos (by omega)]
theorem outL_wide {l : List Nat} {n i : Nat} (hi : l.length <= i) : outL l n i = outL l (n + 1) 0 := by
 unfold outL
 refine mapIdx_congr' fun j a ha => ?_
 have := (List.getElem?_eq_some_iff.1 ha).1
 by_cases h : a < n \/ (a = n /\ j < i)
 . rw [if_pos h, if_pos (by omega)]
 . rw [if_neg h, if_neg (by omega)]
theorem outL_skip {l : List Nat} {n i k : Nat} (hk : l[i]? = some k) (h : k ≠ n) : outL l n (i + 1) = outL l n i := by
 unfold outL
 refine mapIdx_congr' fun j a ha => ?_
 by_cases hj : j = i
 . subst hj
   obtain rfl := Option.some.inj (hk.symm.trans ha)
   by_cases h1 : k < n
   . rw [if_pos (.inl h1), if_pos (.inl h1)]
   . rw [if_neg (by omega), if_neg (by omega)]
 . by_cases h1 : a < n \/ (a = n /\ j < i)
   . rw [if_pos h1, if_pos (by omega)]
   . rw [if_neg h1, if_neg (by omega)]
theorem outL_set {l : List Nat} {n i : Nat} (hk : l[i]? = some n) : (outL l n i).set i (Cd.mk i 0 n ((rev (nx l n i) n : Nat) : Int)) = outL l n (i + 1) := by
 refine List.ext_getElem? fun j => ?_
 rw [List.getElem?_set]
 unfold outL
 simp only [List.length_mapIdx, List.getElem?_mapIdx]
 have hi := (List.getElem?_eq_some_iff.1 hk).1
 by_cases hj : i = j
 . subst hj
   rw [if_pos rfl, if_pos hi, hk]
   simp
 . rw [if_neg hj]
   cases ha : l[j]? with
   | none => rfl
   | some a =>
     simp only [Option.map_some]
     by_cases h1 : a < n \/ (a = n /\ j < i)
     . rw [if_pos h1, if_pos (by omega)]
     . rw [if_neg h1, if_neg (by omega)]
theorem nx_wide : ∀ (l : List Nat) (n i : Nat), l.length <= i -> nx l n i = nx l n l.length
 | [], _, _, _ => rfl
 | x :: r, n, i, h => by
   simp only [List.length_cons] at h ⊢
   simp only [nx]
   rw [nx_wide r n (i - 1) (by omega), Nat.add_sub_cancel]
   by_cases h1 : x < n
   . rw [if_pos h1, if_pos h1]
   . rw [if_neg h1, if_neg h1]
     by_cases h2 : x = n
     . rw [if_pos ⟨h2, by omega⟩, if_pos ⟨h2, by omega⟩]
     . rw [if_neg (by omega), if_neg (by omega)]
theorem wrI {n : Int} (h0 : 0 <= n) (h1 : n < 9223372036854775808) : IntKind.i64.wrap n = n := by
 simp only [IntKind.wrap, IntKind.bits, IntKind.signed]
 simp
 omega
theorem sliceVal_all (A : Option Addr) (n c sz : Nat) : sliceVal (.slice A n c) 0 n sz = .slice A n c := by
 cases A with
 | none => simp [sliceVal]
 | some a => simp [sliceVal, Addr.add]
theorem or_add {a n b : Nat} (h : a < 2 ^ n) : a ||| (b * 2 ^ n) = a + 2 ^ n * b := by
 have := Nat.two_pow_add_eq_or_of_lt h b
 rw [Nat.or_comm, Nat.mul_comm, <- this, Nat.add_comm]
theorem ints_drop (l : List Nat) (n : Nat) : ((ints l).take (ints l).length).drop n = ints (l.drop n) := by
 unfold ints; rw [List.take_length, List.map_drop]
theorem rgL_sum : ∀ {l : List Nat} {b i : Nat} {r : Rg}, (rgL b l)[i]? = some r -> ∃ n, l[i]? = some n /\ r = ⟨(b + sum2 (l.take i) : Nat), n⟩
 | [], _, _, _, h => by simp [rgL] at h
 | x :: l, b, 0, r, h => by
   simp only [rgL, List.getElem?_cons_zero, Option.some.injEq] at h
   exact ⟨x, by simp, by subst h; simp [sum2]⟩
 | x :: l, b, i + 1, r, h => by
   simp only [rgL, List.getElem?_cons_succ] at h
   obtain ⟨n, h1, rfl⟩ := rgL_sum h
   exact ⟨n, by simpa using h1, by simp [sum2]; omega⟩
end Pc
/-
 Contracts of the law's and the reference's small functions.
-/
set_option linter.unusedVariables false
set_option maxRecDepth 100000
open Go Go.Vg Go.Proofs
namespace Pc
abbrev Fz := Nat -> Option Obj
noncomputable def NA : Nat -> Ann TT := fun _ => noAnn
noncomputable def IN (G : Gl) (base : Nat -> Option (PT TT)) (ann : Nat -> Ann TT) : Nat -> Option (PT TT) := inl (CC G) base (bodyW ann) 12
def fr2 (m : Fz) (rel : Rel TT) : List (Ent TT) := [.F m, .R rel]
def iv (k : IntKind) (n : Nat) : SV TT := .v (.int k (n : Int))
def nilV : SV TT := .v (.slice none 0 0)
def bv (b : Bool) : SV TT := .v (.bool b)
def nats (l : List Int) : List Nat := l.map Int.toNat

theorem spec (G : Gl) {base : Nat -> Option (PT TT)} (hb : ∀ f pt, base f = some pt -> SpecOK (CC G) f pt) {f : Nat} {fn : Func} (hf : fnOf f = some fn) (anns : Nat -> Ann TT) (c : Ctr TT) (ann : c.X -> Ann TT)
   (h : ∀ x, c.phi x -> Met (fnx (CC G) (IN G base anns) (ann x) fn (c.args x) (c.H x) (outK true (c.H x).length (c.ret x)) (c.pan x))) : SpecOK (CC G) f c.pt := by
 obtain ⟨h1, h2, h3, h4⟩ := fnOf_ok G f fn hf
 exact ctr_okX (zok G) (inl_ok (zok G) (mixed G) hb (bodyW_ok G anns) 12) (mixed G) h1 h2 h3 h4 true c ann h
theorem no_ok (G : Gl) : ∀ f pt, no f = some pt -> SpecOK (CC G) f pt := fun _ _ h => by cases h
/-! zzFits6: some bool. -/
def c16 : Ctr TT where
 X := Fz × Rel TT × Value × List Pt
 find a H := match a, H with
   | [.ro 36 x l], [.F m, .R rel] => some (m, rel, x, l)
   | _, _ => none
 phi _ := True
 args x := [.ro 36 x.2.2.1 x.2.2.2]
 H x := fr2 x.1 x.2.1
 outs := [{ Y := fun _ => Bool, psi := fun _ _ => True, res := fun _ y => bv y, H := fun x _ => fr2 x.1 x.2.1 }]
noncomputable def a16 (l : List Pt) : Ann TT := fun r S => cond (Nat.beq r 4) (some {
   X := Nat
   phi := fun i => i <= l.length
   fr := fun i => [(10, iv .i64 i)]
   H := fun i => []
   mu := fun i => l.length - i }) none

/-! light -/
def lightB (l : List Pt) : Prop := l.length <= 60 /\ ∀ p ∈ l, 0 <= p.kind /\ p.kind <= 4 /\ (p.kind = 0 -> p.n <= 32) /\ p.s.n <= 40 /\ (p.kind = 4 -> p.n <= 40)
def c18 : Ctr TT where
 X := Fz × Rel TT × Value × List Pt
 find a H := match a, H with
   | [.ro 36 x l], [.F m, .R rel] => some (m, rel, x, l)
   | _, _ => none
 phi _ := True
 args x := [.ro 36 x.2.2.1 x.2.2.2]
 H x := fr2 x.1 x.2.1
 outs := [{ Y := fun _ => Bool, psi := fun x y => y = true -> lightB x.2.2.2, res := fun _ y => bv y, H := fun x _ => fr2 x.1 x.2.1 }]
noncomputable def a18 (l : List Pt) : Ann TT := fun r S => cond (Nat.beq r 4) (some {
   X := Nat
   phi := fun i => i <= l.length /\ l.length <= 60 /\ ∀ j p, j < i -> l[j]? = some p -> 0 <= p.kind /\ p.kind <= 4 /\ (p.kind = 0 -> p.n <= 32) /\ p.s.n <= 40 /\ (p.kind = 4 -> p.n <= 40)
   fr := fun i => [(3, iv .i64 i)]
   H := fun i => []
   mu := fun i => l.length - i }) none

/-! turned -/
def c98 : Ctr TT where
 X := Fz × Rel TT × Nat × Nat
 find a H := match a, H with
   | [.v (.int .u32 v), .v (.int .u32 n)], [.F m, .R rel] => some (m, rel, v.toNat, n.toNat)
   | _, _ => none
 phi x := x.2.2.1 < 4294967296 /\ x.2.2.2 <= 20
 args x := [iv .u32 x.2.2.1, iv .u32 x.2.2.2]
 H x := fr2 x.1 x.2.1
 outs := [{ Y := fun _ => Unit, psi := fun _ _ => True, res := fun x _ => iv .u32 (rev x.2.2.1 x.2.2.2), H := fun x _ => fr2 x.1 x.2.1 }]
noncomputable def a98 (v n : Nat) : Ann TT := fun r S => cond (Nat.beq r 3) (some {
   X := Nat
   phi := fun i => i <= n
   fr := fun i => [(5, iv .u32 (rev v i)), (6, iv .u32 i)]
   H := fun i => []
   mu := fun i => n - i }) none

/-! KraftSum -/
def okLens (ns : List Nat) : Prop := 2 <= ns.length /\ ns.length <= 60 /\ ∀ l ∈ ns, 1 <= l /\ l <= 20
def lensOf (l : List Cd) : List Nat := l.map fun c => c.len.toNat
def c97 : Ctr TT where
 X := Fz × Rel TT × Value × List Nat
 find a H := match a, H with
   | [.ro 90 x l], [.F m, .R rel] => some (m, rel, x, lensOf l)
   | _, _ => none
 phi x := okLens x.2.2.2
 args x := [.ro 90 x.2.2.1 (linedL x.2.2.2)]
 H x := fr2 x.1 x.2.1
 outs := [{ Y := fun _ => Unit, psi := fun _ _ => True, res := fun x _ => iv .u64 (kraft x.2.2.2), H := fun x _ => fr2 x.1 x.2.1 }]
noncomputable def a97 (ns : List Nat) : Ann TT := fun r S => cond (Nat.beq r 3) (some {
   X := Nat
   phi := fun i => i <= ns.length
   fr := fun i => [(3, iv .u64 (kraft (ns.take i))), (4, iv .i64 i)]
   H := fun i => []
   mu := fun i => ns.length - i }) none

/-! lined, from symbol 0 on, without steps -/
def c44 : Ctr TT where
 X := Fz × Rel TT × Value × List Nat
 find a H := match a, H with
   | [.v (.int .u8 0), .v (.slice none 0 0), .ro 5 x l], [.F m, .R rel] => some (m, rel, x, nats l)
   | _, _ => none
 phi x := ∀ n ∈ x.2.2.2, n < 256
 args x := [iv .u8 0, nilV, .ro 5 x.2.2.1 (ints x.2.2.2)]
 H x := fr2 x.1 x.2.1
 outs := [
   { Y := fun _ => Unit, psi := fun x _ => ¬ okLens x.2.2.2, res := fun x _ => .t [nilV, bv false], H := fun x _ => fr2 x.1 x.2.1 },
   { Y := fun _ => Value, psi := fun x _ => okLens x.2.2.2, res := fun x y => .t [.ro 90 y (linedL x.2.2.2), bv true], H := fun x _ => fr2 x.1 x.2.1 }]
noncomputable def a44 (ns : List Nat) : Ann TT := fun r S => cond (Nat.beq r 6) (some {
   pre := [.own 8 90]
   X := Nat × Value × Rel TT
   phi := fun x => x.1 <= ns.length /\ 2 <= ns.length /\ ns.length <= 60 /\ ∀ j p, j < x.1 -> ns[j]? = some p -> 1 <= p /\ p <= 20
   fr := fun x => [(8, .o 2 90 x.2.1 x.1), (9, iv .u32 (x.1 - 1)), (10, iv .i64 x.1)]
   H := fun x => [(2, .O x.2.1 90 (linedL (ns.take x.1)))]
   mu := fun x => ns.length - x.1 }) none

/-! MakeRanges, from 0 on -/
def c46 : Ctr TT where
 X := Fz × Rel TT × Value × List Nat
 find a H := match a, H with
   | [.v (.int .u64 0), .ro 34 x l], [.F m, .R rel] => some (m, rel, x, nats l)
   | _, _ => none
 phi x := x.2.2.2.length <= 30 /\ ∀ n ∈ x.2.2.2, n <= 20
 args x := [iv .u64 0, .ro 34 x.2.2.1 (ints x.2.2.2)]
 H x := fr2 x.1 x.2.1
 outs := [{ Y := fun _ => Value, psi := fun x _ => True, res := fun x y => .t [.ro 97 y (rgL 0 x.2.2.2), iv .u32 (sum2 x.2.2.2)], H := fun x _ => fr2 x.1 x.2.1 }]
noncomputable def a46 (ns : List Nat) : Ann TT := fun r S => cond (Nat.beq r 4) (some {
   pre := [.own 6 97]
   X := Nat × Value
   phi := fun x => x.1 <= ns.length
   fr := fun x => [(6, .o 2 97 x.2 x.1), (7, iv .u32 (sum2 (ns.take x.1))), (8, iv .i64 x.1)]
   H := fun x => [(2, .O x.2 97 (rgL 0 (ns.take x.1)))]
   mu := fun x => ns.length - x.1 }) none

/-! Canonical -/
def c47 : Ctr TT where
 X := Fz × Rel TT × Value × List Nat
 find a H := match a, H with
   | [.ro 90 x l], [.F m, .R rel] => some (m, rel, x, lensOf l)
   | _, _ => none
 phi x := Good x.2.2.2
 args x := [.ro 90 x.2.2.1 (linedL x.2.2.2)]
 H x := fr2 x.1 x.2.1
 outs := [{ Y := fun _ => Value, psi := fun x _ => True, res := fun x y => .ro 90 y (canonL x.2.2.2), H := fun x _ => fr2 x.1 x.2.1 }]
noncomputable def a47 (ns : List Nat) : Ann TT := fun r S => match S.get 3 with
 | some (.o _ _ gx _) => cond (Nat.beq r 4) (some {
     X := Nat
     phi := fun n => 1 <= n /\ n <= 21
     fr := fun n => [(4, iv .u32 (nx ns (n - 1) ns.length)), (5, iv .u32 n)]
     H := fun n => [(2, .O gx 90 (outL ns n 0))]
     mu := fun n => 21 - n }) (cond (Nat.beq r 8) (match S.get 5 with
       | some (.v (.int _ nn)) => some {
         X := Nat
         phi := fun i => i <= ns.length
         fr := fun i => [(4, iv .u32 (nx ns nn.toNat i)), (6, iv .i64 i)]
         H := fun i => [(2, .O gx 90 (outL ns nn.toNat i))]
         mu := fun i => ns.length - i }
       | _ => none) none)
 | _ => none

/-! given -/
def c17 : Ctr TT where
 X := Fz × Rel TT × Value × List Nat × Value × List Nat
 find a H := match a, H with
   | [.ro 5 x l, .ro 5 y k], [.F m, .R rel] => some (m, rel, x, nats l, y, nats k)
   | _, _ => none
 phi x := (∀ n ∈ x.2.2.2.1, n < 256) /\ (∀ n ∈ x.2.2.2.2.2, n < 256)
 args x := [.ro 5 x.2.2.1 (ints x.2.2.2.1), .ro 5 x.2.2.2.2.1 (ints x.2.2.2.2.2)]
 H x := fr2 x.1 x.2.1
 outs := [
   { Y := fun _ => Unit, psi := fun x _ => True, res := fun x _ => .t [nilV, nilV, bv false], H := fun x _ => fr2 x.1 x.2.1 },
   { Y := fun _ => Value × Value, psi := fun x _ => Good x.2.2.2.1 /\ x.2.2.2.2.2.length <= 30 /\ ∀ n ∈ x.2.2.2.2.2, n <= 20,
     res := fun x y => .t [.ro 90 y.1 (canonL x.2.2.2.1), .ro 97 y.2 (rgL 0 x.2.2.2.2.2), bv true], H := fun x _ => fr2 x.1 x.2.1 }]
noncomputable def a17 (es : List Nat) : Ann TT := fun r S => cond (Nat.beq r 6) (some {
   pre := [.own 9 34]
   X := Nat × Value
   phi := fun x => x.1 <= es.length /\ es.length <= 30 /\ ∀ j p, j < x.1 -> es[j]? = some p -> p <= 20
   fr := fun x => [(9, .o 2 34 x.2 x.1), (10, iv .i64 x.1)]
   H := fun x => [(2, .O x.2 34 (ints (es.take x.1)))]
   mu := fun x => es.length - x.1 }) none
noncomputable def b47 : Nat -> Option (PT TT)
 | 98 => some (loc [none, none] c98.pt)
 | _ => none
noncomputable def b17 : Nat -> Option (PT TT)
 | 44 => some (loc [none, none, some 5] c44.pt)
 | 97 => some (loc [some 90] c97.pt)
 | 46 => some (giv [false, true] (loc [none, some 34] c46.pt))
 | 47 => some (loc [some 90] c47.pt)
 | _ => none
theorem lensOf_lined (l : List Nat) : lensOf (linedL l) = l := by
 unfold lensOf linedL
 refine List.ext_getElem? fun j => ?_
 rw [List.getElem?_map, List.getElem?_mapIdx]
 cases l[j]? <;> simp
end Pc
/-
 Whole codes: each word begins by just one of them.
-/
set_option linter.unusedVariables false
open Go Go.Vg
namespace Pc
theorem bt_zero {a b : Nat} (hb : b < 2) : bt (2 * a + b) 0 = b := by simp only [bt]; omega
theorem bt_next {a b : Nat} (hb : b < 2) (k : Nat) : bt (2 * a + b) (k + 1) = bt a k := by
 simp only [bt, Nat.pow_succ, Nat.mul_comm (2 ^ k) 2]
 rw [<- Nat.div_div_eq_div_mul, show (2 * a + b) / 2 = a by omega]
theorem bt_rev (v : Nat) : ∀ (n k : Nat), k < n -> bt (rev v n) k = bt v (n - 1 - k)
 | 0, k, h => by omega
 | n + 1, 0, h => by rw [rev, bt_zero (bt_lt v n)]; rfl
 | n + 1, k + 1, h => by
   rw [rev, bt_next (bt_lt v n), bt_rev v n k (by omega)]
   congr 1; omega
theorem bt_over {v n k : Nat} (h : v < 2 ^ n) (hk : n <= k) : bt v k = 0 := by
 unfold bt
 rw [Nat.div_eq_of_lt (Nat.lt_of_lt_of_le h (Nat.pow_le_pow_right (by decide) hk))]
theorem bt_mod {v n k : Nat} (h : k < n) : bt (v % 2 ^ n) k = bt v k := by
 rw [bt_test, bt_test, Nat.testBit_mod_two_pow, decide_eq_true h, Bool.true_and]
theorem toNat_inj {a b : Bool} (h : a.toNat = b.toNat) : a = b := by cases a <;> cases b <;> simp_all
theorem eq_bt {a b n : Nat} (ha : a < 2 ^ n) (hb : b < 2 ^ n) (h : ∀ k, k < n -> bt a k = bt b k) : a = b := by
 refine Nat.eq_of_testBit_eq fun k => toNat_inj ?_
 rw [<- bt_test, <- bt_test]
 by_cases hk : k < n
 . exact h k hk
 . rw [bt_over ha (by omega), bt_over hb (by omega)]
theorem rev_rev {c n : Nat} (h : c < 2 ^ n) : rev (rev c n) n = c := by
 refine eq_bt (n := n) (rev_lt _ _) h fun k hk => ?_
 rw [bt_rev _ _ _ hk, bt_rev _ _ _ (by omega)]
 congr 1; omega
theorem rev_mod (v n : Nat) : rev (v % 2 ^ n) n = rev v n := by
 refine eq_bt (n := n) (rev_lt _ _) (rev_lt _ _) fun k hk => ?_
 rw [bt_rev _ _ _ hk, bt_rev _ _ _ hk, bt_mod (by omega)]
theorem rev_div (v : Nat) : ∀ (d n : Nat), rev v (n + d) / 2 ^ d = rev v n
 | 0, n => by simp
 | d + 1, n => by
   have := bt_lt v (n + d)
   rw [show n + (d + 1) = (n + d) + 1 by omega, rev, Nat.pow_succ, Nat.mul_comm (2 ^ d) 2, <- Nat.div_div_eq_div_mul, show (2 * rev v (n + d) + bt v (n + d)) / 2 = rev v (n + d) by omega, rev_div v d n]
def hS : List Nat -> Nat -> Nat -> Nat
 | [], _, _ => 0
 | l :: r, n, i => (if l < n then 2 ^ (20 - l) else if l = n /\ 0 < i then 2 ^ (20 - l) else 0) + hS r n (i - 1)
theorem nx_hS : ∀ {l : List Nat} {n : Nat} (i : Nat), n <= 20 -> nx l n i * 2 ^ (20 - n) = hS l n i
 | [], n, i, _ => by simp [nx, hS]
 | x :: r, n, i, h => by
   simp only [nx, hS, Nat.add_mul, nx_hS (l := r) (i - 1) h]
   congr 1
   by_cases h1 : x < n
   . rw [if_pos h1, if_pos h1, <- Nat.pow_add, show n - x + (20 - n) = 20 - x by omega]
   . rw [if_neg h1, if_neg h1]
     by_cases h2 : x = n /\ 0 < i
     . rw [if_pos h2, if_pos h2, h2.1, Nat.one_mul]
     . rw [if_neg h2, if_neg h2, Nat.zero_mul]
theorem hS_succ : ∀ {l : List Nat} {n i : Nat}, i < l.length -> hS l n (i + 1) = hS l n i + (if l.getD i 0 = n then 2 ^ (20 - n) else 0)
 | [], n, i, h => by simp at h
 | x :: r, n, 0, h => by
   simp only [hS, List.getD_cons_zero, Nat.zero_add, Nat.sub_self, Nat.zero_sub]
   by_cases h1 : x < n
   . rw [if_pos h1, if_pos h1, if_neg (by omega)]; omega
   . rw [if_neg h1, if_neg h1]
     by_cases h2 : x = n
     . simp [h2]; omega
     . simp [h2]
 | x :: r, n, i + 1, h => by
   have ih := hS_succ (l := r) (n := n) (i := i) (by simpa using h)
   simp only [hS, List.getD_cons_succ, Nat.add_sub_cancel, ih]
   by_cases h1 : x < n
   . rw [if_pos h1, if_pos h1]; omega
   . rw [if_neg h1, if_neg h1]
     simp
     omega
theorem hS_mono : ∀ (l : List Nat) {n i n' i' : Nat}, n < n' \/ (n = n' /\ i <= i') -> hS l n i <= hS l n' i'
 | [], _, _, _, _, _ => Nat.le_refl _
 | x :: r, n, i, n', i', h => by
   have ih := hS_mono r (n := n) (i := i - 1) (n' := n') (i' := i' - 1) (by omega)
   simp only [hS]
   by_cases h1 : x < n
   . rw [if_pos h1, if_pos (by omega)]; omega
   . rw [if_neg h1]
     by_cases h2 : x = n /\ 0 < i
     . rw [if_pos h2]
       by_cases h3 : x < n'
       . rw [if_pos h3]; omega
       . rw [if_neg h3, if_pos (by omega)]; omega
     . rw [if_neg h2]; omega
theorem hS_next : ∀ (l : List Nat) (n : Nat), hS l (n + 1) 0 = hS l n l.length
 | [], n => rfl
 | x :: r, n => by
   have ih := hS_next r n
   simp only [hS, List.length_cons, Nat.add_sub_cancel, Nat.zero_sub, ih]
   by_cases h : x < n
   . rw [if_pos (by omega), if_pos h]
   . by_cases h2 : x = n
     . rw [if_pos (by omega), if_neg h, if_pos ⟨h2, by omega⟩]
     . rw [if_neg (by omega), if_neg (by omega), if_neg h, if_neg (by omega)]
theorem hS_all : ∀ {l : List Nat}, (∀ x ∈ l, x <= 20) -> hS l 21 0 = kraft l
 | [], _ => rfl
 | x :: r, h => by
   simp only [hS, kraft, Nat.zero_sub, hS_all (l := r) fun y hy => h y (List.mem_cons_of_mem _ hy)]
   rw [if_pos (by have := h x List.mem_cons_self; omega)]
theorem hS_none : ∀ (l : List Nat), hS l 0 0 = 0
 | [] => rfl
 | x :: r => by simp [hS, hS_none r]
theorem hS_row {l : List Nat} {n w : Nat} (hl : hS l n 0 <= w) : ∀ k, k <= l.length -> w < hS l n k -> ∃ i, i < k /\ l.getD i 0 = n /\ hS l n i <= w /\ w < hS l n i + 2 ^ (20 - n)
 | 0, _, h => by omega
 | k + 1, hk, h => by
   by_cases h1 : w < hS l n k
   . obtain ⟨i, h2, h3⟩ := hS_row hl k (by omega) h1
     exact ⟨i, by omega, h3⟩
   . rw [hS_succ (by omega)] at h
     by_cases h2 : l.getD k 0 = n
     . rw [if_pos h2] at h
       exact ⟨k, by omega, h2, by omega, h⟩
     . rw [if_neg h2] at h; omega
theorem hS_col {l : List Nat} {w : Nat} : ∀ n, w < hS l n 0 -> ∃ i n', i < l.length /\ l.getD i 0 = n' /\ hS l n' i <= w /\ w < hS l n' i + 2 ^ (20 - n')
 | 0, h => by rw [hS_none] at h; omega
 | n + 1, h => by
   by_cases h1 : w < hS l n 0
   . exact hS_col n h1
   . rw [hS_next] at h
     obtain ⟨i, h2, h3⟩ := hS_row (by omega) l.length (Nat.le_refl _) h
     exact ⟨i, n, h2, h3⟩
def hit (lens : List Nat) (v i : Nat) : Prop := v % 2 ^ lens.getD i 0 = rev (nx lens (lens.getD i 0) i) (lens.getD i 0)
instance (lens : List Nat) (v i : Nat) : Decidable (hit lens v i) := inferInstanceAs (Decidable (_ = _))
theorem getD_mem {l : List Nat} {i : Nat} (h : i < l.length) : l.getD i 0 ∈ l := by
 rw [List.getD_eq_getElem?_getD, List.getElem?_eq_getElem h]; exact List.getElem_mem h
theorem nx_lt {lens : List Nat} (hg : Good lens) {i : Nat} (h : i < lens.length) : nx lens (lens.getD i 0) i < 2 ^ lens.getD i 0 := by
 have hn := hg.pos _ (getD_mem h)
 have h1 := nx_succ lens (lens.getD i 0) i h
 rw [if_pos rfl] at h1
 have h2 := nx_bound hg (n := lens.getD i 0) (i := i + 1) hn.2
 omega
theorem hit_iff {lens : List Nat} (hg : Good lens) {v i : Nat} (h : i < lens.length) : hit lens v i ↔ hS lens (lens.getD i 0) i <= rev v 20 /\ rev v 20 < hS lens (lens.getD i 0) i + 2 ^ (20 - lens.getD i 0) := by
 have hn := hg.pos _ (getD_mem h)
 have hc := nx_lt hg h
 have hs := nx_hS (l := lens) (n := lens.getD i 0) i hn.2
 have hd := rev_div v (20 - lens.getD i 0) (lens.getD i 0)
 rw [show lens.getD i 0 + (20 - lens.getD i 0) = 20 by omega] at hd
 have hp : 0 < 2 ^ (20 - lens.getD i 0) := Nat.pow_pos (by decide)
 unfold hit
 generalize lens.getD i 0 = n at *
 have key : v % 2 ^ n = rev (nx lens n i) n ↔ rev v n = nx lens n i := by
   constructor
   . intro h1
     rw [<- rev_mod, h1, rev_rev hc]
   . intro h1
     have h2 := rev_rev (c := v % 2 ^ n) (n := n) (Nat.mod_lt _ (Nat.pow_pos (by decide)))
     rw [rev_mod] at h2
     rw [<- h1, h2]
 rw [key, <- hd, <- hs]
 generalize 2 ^ (20 - n) = p at *
 generalize nx lens n i = c at *
 constructor
 . intro h1
   subst h1
   have h2 := Nat.div_add_mod (rev v 20) p
   have h3 := Nat.mod_lt (rev v 20) hp
   rw [Nat.mul_comm]
   omega
 . rintro ⟨h1, h2⟩
   refine Nat.div_eq_of_lt_le h1 ?_
   rw [Nat.add_mul, Nat.one_mul]; omega
theorem hit_one {lens : List Nat} (hg : Good lens) {v i j : Nat} (hi : i < lens.length) (hj : j < lens.length) (h1 : hit lens v i) (h2 : hit lens v j) : i = j := by
 rw [hit_iff hg hi] at h1
 rw [hit_iff hg hj] at h2
 have far : ∀ {a b : Nat}, a < lens.length -> lens.getD a 0 < lens.getD b 0 \/ (lens.getD a 0 = lens.getD b 0 /\ a < b) -> hS lens (lens.getD a 0) a + 2 ^ (20 - lens.getD a 0) <= hS lens (lens.getD b 0) b := by
   intro a b ha h
   have := hS_succ (l := lens) (n := lens.getD a 0) ha
   rw [if_pos rfl] at this
   rw [<- this]
   exact hS_mono lens (by omega)
 by_cases h : i = j
 . exact h
 . exfalso
   rcases Nat.lt_trichotomy (lens.getD i 0) (lens.getD j 0) with h3 | h3 | h3
   . have := far hi (.inl h3); omega
   . by_cases h4 : i < j
     . have := far hi (.inr ⟨h3, h4⟩); omega
     . have := far hj (.inr ⟨h3.symm, by omega⟩); omega
   . have := far hj (.inl h3); omega
theorem hit_some {lens : List Nat} (hg : Good lens) (v : Nat) : ∃ i, i < lens.length /\ hit lens v i := by
 have h1 : rev v 20 < hS lens 21 0 := by
   rw [hS_all fun x hx => (hg.pos x hx).2, hg.whole]; exact rev_lt v 20
 obtain ⟨i, n, h2, rfl, h3⟩ := hS_col 21 h1
 exact ⟨i, h2, (hit_iff hg h2).2 h3⟩
def cd (lens : List Nat) (v : Nat) : Nat := ((List.range lens.length).find? fun i => decide (hit lens v i)).getD 0
theorem cd_hit {lens : List Nat} (hg : Good lens) (v : Nat) : cd lens v < lens.length /\ hit lens v (cd lens v) := by
 obtain ⟨i, h1, h2⟩ := hit_some hg v
 unfold cd
 cases h : (List.range lens.length).find? fun i => decide (hit lens v i) with
 | none =>
   have := List.find?_eq_none.1 h i (List.mem_range.2 h1)
   simp [h2] at this
 | some j =>
   exact ⟨List.mem_range.1 (List.mem_of_find?_eq_some h), by simpa using List.find?_some h⟩
theorem cd_eq {lens : List Nat} (hg : Good lens) {v i : Nat} (h1 : i < lens.length) (h2 : hit lens v i) : cd lens v = i :=
 hit_one hg (cd_hit hg v).1 h1 (cd_hit hg v).2 h2
def cl (lens : List Nat) (v : Nat) : Nat := lens.getD (cd lens v) 0
theorem cl_pos {lens : List Nat} (hg : Good lens) (v : Nat) : 1 <= cl lens v /\ cl lens v <= 20 := hg.pos _ (getD_mem (cd_hit hg v).1)
theorem cd_same {lens : List Nat} (hg : Good lens) {v w : Nat} (h : v % 2 ^ cl lens v = w % 2 ^ cl lens v) : cd lens w = cd lens v := by
 obtain ⟨h1, h2⟩ := cd_hit hg v
 exact cd_eq hg h1 (by unfold hit at h2 ⊢; exact h.symm.trans h2)
def symM (lens : List Nat) (B : List Nat) : Option Nat := if cl lens (numL B) <= B.length then some (cd lens (numL B)) else none
structure RIt where
 k : Int
 v : Nat
 s : List Nat
inductive Stp1 where
 | bad
 | stop
 | got (it : RIt) (n : Nat)
def stepM (lens extra : List Nat) (bs : List Nat) (B : List Nat) (p : Pt) : Stp1 :=
 if p.kind = 0 then (if B.length < p.n.toNat then .stop else .got ⟨0, numL (B.take p.n.toNat), []⟩ p.n.toNat)
 else if p.kind = 1 then (match symM lens B with
   | none => .stop
   | some i => .got ⟨1, i, []⟩ (lens.getD i 0))
 else if p.kind = 2 then (match symM lens B with
   | none => .stop
   | some i => if extra.length <= i then .bad else
       if B.length - lens.getD i 0 < extra.getD i 0 then .stop
       else .got ⟨2, ((rgL 0 extra).getD i ⟨0, 0⟩).base.toNat + numL ((B.drop (lens.getD i 0)).take (extra.getD i 0)), []⟩ (lens.getD i 0 + extra.getD i 0))
 else if p.kind = 3 then .got ⟨3, numL (B.take (B.length % 8)), []⟩ (B.length % 8)
 else if p.kind = 4 then (if B.length % 8 ≠ 0 then .bad else if B.length / 8 < p.n.toNat then .stop
   else .got ⟨4, 0, (bs.drop (bs.length - B.length / 8)).take p.n.toNat⟩ (8 * p.n.toNat))
 else .bad
def readM (lens extra bs : List Nat) : List Pt -> List Nat -> Bool -> Option (List RIt × Bool × Nat)
 | [], B, _ => some ([], false, B.length)
 | p :: r, B, pb => if p.kind ≠ 4 /\ pb = true then none else match stepM lens extra bs B p with
   | .bad => none
   | .stop => some ([], true, B.length)
   | .got it n => match readM lens extra bs r (B.drop n) (decide (p.kind = 4)) with
     | none => none
     | some (l, st, q) => some (it :: l, st, q)
theorem numL_lt : ∀ {B : List Nat}, (∀ b ∈ B, b < 2) -> numL B < 2 ^ B.length
 | [], _ => by simp [numL]
 | b :: r, h => by
   have := numL_lt (B := r) fun x hx => h x (List.mem_cons_of_mem _ hx)
   have := h b List.mem_cons_self
   simp only [numL, List.length_cons, Nat.pow_succ]
   omega
theorem numL_app : ∀ (A B : List Nat), numL (A ++ B) = numL A + 2 ^ A.length * numL B
 | [], B => by simp [numL]
 | a :: A, B => by
   simp only [List.cons_append, numL, numL_app A B, List.length_cons, Nat.pow_succ]
   rw [Nat.mul_add, <- Nat.mul_assoc, Nat.mul_comm 2 (2 ^ A.length)]
   omega
theorem numL_take {B : List Nat} (h : ∀ b ∈ B, b < 2) {n : Nat} (hn : n <= B.length) : numL (B.take n) = numL B % 2 ^ n := by
 have h1 := numL_app (B.take n) (B.drop n)
 rw [List.take_append_drop, List.length_take, Nat.min_eq_left hn] at h1
 have h2 := numL_lt (B := B.take n) fun b hb => h b (List.mem_of_mem_take hb)
 rw [List.length_take, Nat.min_eq_left hn] at h2
 rw [h1, Nat.add_mul_mod_self_left, Nat.mod_eq_of_lt h2]
theorem numL_drop {B : List Nat} (h : ∀ b ∈ B, b < 2) {n : Nat} (hn : n <= B.length) : numL (B.drop n) = numL B / 2 ^ n := by
 have h1 := numL_app (B.take n) (B.drop n)
 rw [List.take_append_drop, List.length_take, Nat.min_eq_left hn] at h1
 have h2 := numL_lt (B := B.take n) fun b hb => h b (List.mem_of_mem_take hb)
 rw [List.length_take, Nat.min_eq_left hn] at h2
 rw [h1, Nat.add_mul_div_left _ _ (Nat.pow_pos (by decide)), Nat.div_eq_of_lt h2, Nat.zero_add]
theorem numL_snoc {B : List Nat} {n b : Nat} (h : B[n]? = some b) : numL (B.take (n + 1)) = numL (B.take n) + 2 ^ n * b := by
 have hn := (List.getElem?_eq_some_iff.1 h).1
 rw [take_succ h, numL_app, List.length_take, Nat.min_eq_left (by omega)]
 simp [numL]
theorem numL_bt : ∀ {B : List Nat} {n b : Nat}, (∀ b ∈ B, b < 2) -> B[n]? = some b -> bt (numL B) n = b
 | [], _, _, _, h => by simp at h
 | a :: r, 0, b, hb, h => by
   obtain rfl : a = b := by simpa using h
   have := hb a List.mem_cons_self
   rw [numL, Nat.add_comm, bt_zero this]
 | a :: r, n + 1, b, hb, h => by
   have := hb a List.mem_cons_self
   rw [numL, Nat.add_comm, bt_next this]
   exact numL_bt (fun x hx => hb x (List.mem_cons_of_mem _ hx)) (by simpa using h)
theorem byteBits_len (big : Bool) (v : Nat) : (byteBits big v).length = 8 := by simp [byteBits]
theorem byteBits_lt (big : Bool) (v : Nat) : ∀ b ∈ byteBits big v, b < 2 := by
 intro b hb
 simp only [byteBits, List.mem_map] at hb
 obtain ⟨k, _, rfl⟩ := hb
 exact bt_lt _ _
theorem bitsOf_cons (big : Bool) (b : Nat) (r : List Nat) : bitsOf big (b :: r) = byteBits big b ++ bitsOf big r := rfl
theorem bitsOf_app (big : Bool) (a b : List Nat) : bitsOf big (a ++ b) = bitsOf big a ++ bitsOf big b := by simp [bitsOf]
theorem bitsOf_len (big : Bool) : ∀ bs : List Nat, (bitsOf big bs).length = 8 * bs.length
 | [] => rfl
 | b :: r => by rw [bitsOf_cons, List.length_append, byteBits_len, bitsOf_len big r, List.length_cons]; omega
theorem bitsOf_lt (big : Bool) (bs : List Nat) : ∀ b ∈ bitsOf big bs, b < 2 := by
 intro b hb
 simp only [bitsOf, List.mem_flatMap] at hb
 obtain ⟨x, _, h⟩ := hb
 exact byteBits_lt big x b h
end Pc
/-
 Contracts of the reference's reading.
-/
set_option linter.unusedVariables false
set_option maxRecDepth 100000
open Go Go.Vg Go.Proofs
namespace Pc
/-! unpacked -/
def c48 : Ctr TT where
 X := Fz × Rel TT × Value × List Nat × Bool
 find a H := match a, H with
   | [.ro 5 x l, .v (.bool big)], [.F m, .R rel] => some (m, rel, x, nats l, big)
   | _, _ => none
 phi x := (∀ n ∈ x.2.2.2.1, n < 256) /\ x.2.2.2.1.length <= 1000000
 args x := [.ro 5 x.2.2.1 (ints x.2.2.2.1), bv x.2.2.2.2]
 H x := fr2 x.1 x.2.1
 outs := [{ Y := fun _ => Value, psi := fun _ _ => True, res := fun x y => .ro 5 y (ints (bitsOf x.2.2.2.2 x.2.2.2.1)), H := fun x _ => fr2 x.1 x.2.1 }]
noncomputable def a48 (bs : List Nat) (big : Bool) : Ann TT := fun r S => cond (Nat.beq r 3) (some {
   pre := [.own 5 5]
   X := Nat × Value
   phi := fun x => x.1 <= bs.length
   fr := fun x => [(5, .o 2 5 x.2 (8 * x.1)), (6, iv .i64 x.1)]
   H := fun x => [(2, .O x.2 5 (ints (bitsOf big (bs.take x.1))))]
   mu := fun x => bs.length - x.1 }) (cond (Nat.beq r 6) (match S.get 6 with
     | some (.v (.int _ ii)) => some {
       X := Nat × Value
       phi := fun x => x.1 <= 8
       fr := fun x => [(5, .o 2 5 x.2 (8 * ii.toNat + x.1)), (7, iv .u64 x.1)]
       H := fun x => [(2, .O x.2 5 (ints (bitsOf big (bs.take ii.toNat) ++ (byteBits big (bs.getD ii.toNat 0)).take x.1)))]
       mu := fun x => 8 - x.1 }
     | _ => none) none)
/-! number -/
structure XB where
 m : Fz
 rel : Rel TT
 b : Nat
 v : Value
 B : List Nat
def c49 : Ctr TT where
 X := XB × Nat
 find a H := match a, H with
   | [.p 2 _ (.lit 0), .v (.int .u64 n)], [.F m, .R rel, .B b 91 [.c (.ro 5 x l)]] => some (⟨m, rel, b, x, nats l⟩, n.toNat)
   | _, _ => none
 phi x := (∀ b ∈ x.1.B, b < 2) /\ x.1.B.length <= 8000000 /\ x.2 <= 64
 args x := [.p 2 x.1.b (.lit 0), iv .u64 x.2]
 H x := [.F x.1.m, .R x.1.rel, .B x.1.b 91 [.c (.ro 5 x.1.v (ints x.1.B))]]
 outs := [
   { Y := fun _ => Unit, psi := fun x _ => x.1.B.length < x.2, res := fun x _ => .t [iv .u64 0, bv false], H := fun x _ => [.F x.1.m, .R x.1.rel, .B x.1.b 91 [.c (.ro 5 x.1.v (ints x.1.B))]] },
   { Y := fun _ => Value, psi := fun x _ => x.2 <= x.1.B.length, res := fun x _ => .t [iv .u64 (numL (x.1.B.take x.2)), bv true], H := fun x y => [.F x.1.m, .R x.1.rel, .B x.1.b 91 [.c (.ro 5 y (ints (x.1.B.drop x.2)))]] }]
noncomputable def a49 (B : List Nat) (n : Nat) : Ann TT := fun r S => cond (Nat.beq r 5) (some {
   X := Nat
   phi := fun i => i <= n
   fr := fun i => [(6, iv .u64 (numL (B.take i))), (7, iv .u64 i)]
   H := fun i => []
   mu := fun i => n - i }) none
/-! symbol -/
def c50 : Ctr TT where
 X := XB × Value × List Nat
 find a H := match a, H with
   | [.p 2 _ (.lit 0), .ro 90 y k], [.F m, .R rel, .B b 91 [.c (.ro 5 x l)]] => some (⟨m, rel, b, x, nats l⟩, y, lensOf k)
   | _, _ => none
 phi x := (∀ b ∈ x.1.B, b < 2) /\ x.1.B.length <= 8000000 /\ Good x.2.2
 args x := [.p 2 x.1.b (.lit 0), .ro 90 x.2.1 (canonL x.2.2)]
 H x := [.F x.1.m, .R x.1.rel, .B x.1.b 91 [.c (.ro 5 x.1.v (ints x.1.B))]]
 outs := [
   { Y := fun _ => Unit, psi := fun x _ => symM x.2.2 x.1.B = none, res := fun x _ => .t [iv .u64 0, bv false], H := fun x _ => [.F x.1.m, .R x.1.rel, .B x.1.b 91 [.c (.ro 5 x.1.v (ints x.1.B))]] },
   { Y := fun _ => Value, psi := fun x _ => symM x.2.2 x.1.B = some (cd x.2.2 (numL x.1.B)), res := fun x _ => .t [iv .u64 (cd x.2.2 (numL x.1.B)), bv true],
     H := fun x y => [.F x.1.m, .R x.1.rel, .B x.1.b 91 [.c (.ro 5 y (ints (x.1.B.drop (cl x.2.2 (numL x.1.B)))))]] }]
noncomputable def a50 (B lens : List Nat) : Ann TT := fun r S => cond (Nat.beq r 3) (some {
   X := Nat
   phi := fun n => 1 <= n /\ n <= 21 /\ n <= B.length + 1 /\ n <= cl lens (numL B)
   fr := fun n => [(6, iv .u32 (numL (B.take (n - 1)))), (7, iv .u32 n)]
   H := fun n => []
   mu := fun n => 21 - n }) (cond (Nat.beq r 7) (match S.get 7 with
     | some (.v (.int _ nn)) => some {
       X := Nat
       phi := fun i => i <= lens.length /\ (cl lens (numL B) = nn.toNat -> i <= cd lens (numL B))
       fr := fun i => [(8, iv .i64 i)]
       H := fun i => []
       mu := fun i => lens.length - i }
     | _ => none) none)
end Pc
/-
 The contract of the reference's ReadAll.
-/
set_option linter.unusedVariables false
set_option maxRecDepth 100000
open Go Go.Vg Go.Proofs
namespace Pc
def itOK (rel : Rel TT) (it : RIt) (p : Pt) : Prop := p.kind = it.k /\ p.v = (it.v : Int) /\ isRo rel 5 p.s.val (ints it.s)
def itsOK (rel : Rel TT) : List RIt -> List Pt -> Prop
 | [], [] => True
 | a :: r, p :: q => itOK rel a p /\ itsOK rel r q
 | _, _ => False
def pb (l : List Pt) : Nat -> Bool
 | 0 => false
 | i + 1 => match l[i]? with
   | some p => decide (p.kind = 4)
   | none => false
def pref (its : List RIt) : Option (List RIt × Bool × Nat) -> Option (List RIt × Bool × Nat)
 | none => none
 | some (a, st, q) => some (its ++ a, st, q)
structure XR where
 m : Fz
 rel : Rel TT
 vl : Value
 l : List Pt
 vc : Value
 lens : List Nat
 vr : Value
 extra : List Nat
 vs : Value
 bs : List Nat
 big : Bool
def xrOK (x : XR) : Prop := Good x.lens /\ x.extra.length <= 30 /\ (∀ n ∈ x.extra, n <= 20) /\ (∀ n ∈ x.bs, n < 256) /\ x.bs.length <= 1000000 /\ lightB x.l /\ ∀ p ∈ x.l, 0 <= p.n
def extraOf (l : List Rg) : List Nat := l.map fun c => c.len.toNat
structure Y20 where
 gv : Value
 gl : List Pt
 rel : Rel TT
 its : List RIt
 st : Bool
 left : Nat
structure ps20 (x : XR) (y : Y20) : Prop where
 run : readM x.lens x.extra x.bs x.l (bitsOf x.big x.bs) false = some (y.its, y.st, y.left)
 its : itsOK y.rel y.its y.gl
 rel : relLe x.rel y.rel
 left : y.left <= 8 * x.bs.length
 len : y.gl.length <= x.l.length
def bad20 (x : XR) : Prop := readM x.lens x.extra x.bs x.l (bitsOf x.big x.bs) false = none
def wrong (st : Bool) (n : Nat) : Int := if st = true then (n : Int) else -1
def c20 : Ctr TT where
 X := XR
 find a H := match a, H with
   | [.ro 36 vl l, .ro 90 vc k, .ro 97 vr r, .ro 5 vs bs, .v (.bool big)], [.F m, .R rel] => some ⟨m, rel, vl, l, vc, lensOf k, vr, extraOf r, vs, nats bs, big⟩
   | _, _ => none
 phi := xrOK
 args x := [.ro 36 x.vl x.l, .ro 90 x.vc (canonL x.lens), .ro 97 x.vr (rgL 0 x.extra), .ro 5 x.vs (ints x.bs), bv x.big]
 H x := fr2 x.m x.rel
 outs := [
   { Y := fun _ => Unit, psi := fun x _ => bad20 x, res := fun x _ => .t [nilV, iv .i64 0, iv .i64 0, bv false], H := fun x _ => fr2 x.m x.rel },
   { Y := fun _ => Y20
     psi := fun x y => ps20 x y
     res := fun x y => .t [.ro 36 y.gv y.gl, .v (.int .i64 (wrong y.st y.gl.length)), iv .i64 (8 * x.bs.length - y.left), bv true]
     H := fun x y => fr2 x.m y.rel }]
structure X20 where
 i : Nat
 gx : Value
 gl : List Pt
 rel : Rel TT
 its : List RIt
 B : List Nat
 w : Value
structure ph20 (x : XR) (y : X20) : Prop where
 i : y.i <= x.l.length
 rel : relLe x.rel y.rel
 its : itsOK y.rel y.its y.gl
 len : y.gl.length = y.i
 bit : ∀ b ∈ y.B, b < 2
 all : y.B.length <= 8 * x.bs.length
 run : readM x.lens x.extra x.bs x.l (bitsOf x.big x.bs) false = pref y.its (readM x.lens x.extra x.bs (x.l.drop y.i) y.B (pb x.l y.i))
noncomputable def a20 (x : XR) : Ann TT := fun r S => cond (Nat.beq r 4) (match S.H with
   | [_, _, .B b _ _] => some {
     pre := [.own 10 36]
     X := X20
     phi := fun y => ph20 x y
     fr := fun y => [(10, .o 3 36 y.gx y.gl.length), (16, iv .i64 y.i)]
     H := fun y => [(1, .R y.rel), (2, .B b 91 [.c (.ro 5 y.w (ints y.B))]), (3, .O y.gx 36 y.gl)]
     mu := fun y => x.l.length - y.i }
   | _ => none) (cond (Nat.beq r 5009) (match S.get 16, S.get 10, S.H with
     | some (.v (.int _ i)), some g, [_, _, _, _, .B _ _ (.c (.v (.int _ k)) :: _)] => some {
       X := Unit
       phi := fun _ => pb x.l i.toNat = true -> k = 4
       fr := fun _ => [(10, g)]
       H := fun _ => []
       mu := fun _ => 0 }
     | _, _, _ => none) none)
noncomputable def b20 : Nat -> Option (PT TT)
 | 48 => some (loc [some 5, none] c48.pt)
 | 49 => some (loc [none, none] c49.pt)
 | 50 => some (loc [none, some 90] c50.pt)
 | _ => none
theorem pb_next {l : List Pt} {i : Nat} {p : Pt} (h : l[i]? = some p) : pb l (i + 1) = decide (p.kind = 4) := by simp [pb, h]
theorem drop_at {α : Type} {l : List α} {i : Nat} {p : α} (h : l[i]? = some p) : l.drop i = p :: l.drop (i + 1) := by
 obtain ⟨h1, rfl⟩ := List.getElem?_eq_some_iff.1 h
 exact (List.getElem_cons_drop h1).symm
theorem pref_pref (a b : List RIt) (x : Option (List RIt × Bool × Nat)) : pref a (pref b x) = pref (a ++ b) x := by
 rcases x with _ | ⟨l, st, q⟩ <;> simp [pref]
theorem itsOK_len {rel : Rel TT} : ∀ {a : List RIt} {b : List Pt}, itsOK rel a b -> a.length = b.length
 | [], [], _ => rfl
 | _ :: a, _ :: b, h => by simp [itsOK_len h.2]
 | [], _ :: _, h => h.elim
 | _ :: _, [], h => h.elim
theorem itOK_mono {r r' : Rel TT} (h : relLe r r') {a : RIt} {p : Pt} (k : itOK r a p) : itOK r' a p := by
 obtain ⟨k1, k2, k3⟩ := k
 refine ⟨k1, k2, ?_⟩
 rcases k3 with k3 | k3
 . exact .inl (h _ _ _ k3)
 . exact .inr k3
theorem itsOK_mono {r r' : Rel TT} (h : relLe r r') : ∀ {a : List RIt} {b : List Pt}, itsOK r a b -> itsOK r' a b
 | [], [], _ => trivial
 | _ :: a, _ :: b, k => ⟨itOK_mono h k.1, itsOK_mono h k.2⟩
 | [], _ :: _, h => h.elim
 | _ :: _, [], h => h.elim
theorem itsOK_snoc {r : Rel TT} {it : RIt} {p : Pt} (h : itOK r it p) : ∀ {a : List RIt} {b : List Pt}, itsOK r a b -> itsOK r (a ++ [it]) (b ++ [p])
 | [], [], _ => ⟨h, trivial⟩
 | _ :: a, _ :: b, k => ⟨k.1, itsOK_snoc h k.2⟩
 | [], _ :: _, h => h.elim
 | _ :: _, [], h => h.elim
theorem ph20_step {x : XR} {y : X20} (h : ph20 x y) {p : Pt} (hp : x.l[y.i]? = some p) (hpb : pb x.l y.i = true -> p.kind = 4) :
   readM x.lens x.extra x.bs x.l (bitsOf x.big x.bs) false = pref y.its (match stepM x.lens x.extra x.bs y.B p with
     | .bad => none
     | .stop => some ([], true, y.B.length)
     | .got it n => pref [it] (readM x.lens x.extra x.bs (x.l.drop (y.i + 1)) (y.B.drop n) (pb x.l (y.i + 1)))) := by
 rw [h.run, drop_at hp, readM, if_neg (by rintro ⟨h1, h2⟩; exact h1 (hpb h2)), pb_next hp]
 cases stepM x.lens x.extra x.bs y.B p with
 | bad => rfl
 | stop => rfl
 | got it n =>
   dsimp only
   rcases readM x.lens x.extra x.bs (x.l.drop (y.i + 1)) (y.B.drop n) (decide (p.kind = 4)) with _ | ⟨a, st, q⟩ <;> rfl
theorem ph20_next {x : XR} {y : X20} (h : ph20 x y) {p : Pt} (hp : x.l[y.i]? = some p) (hpb : pb x.l y.i = true -> p.kind = 4) {it : RIt} {n : Nat} (hs : stepM x.lens x.extra x.bs y.B p = .got it n)
   {gx w : Value} {rel : Rel TT} {q : Pt} (hr : relLe y.rel rel) (hq : itOK rel it q) : ph20 x ⟨y.i + 1, gx, y.gl ++ [q], rel, y.its ++ [it], y.B.drop n, w⟩ where
 i := (List.getElem?_eq_some_iff.1 hp).1
 rel := h.rel.trans hr
 its := itsOK_snoc hq (itsOK_mono hr h.its)
 len := by simp [h.len]
 bit := fun b hb => h.bit b (List.mem_of_mem_drop hb)
 all := by have := h.all; simp only [List.length_drop]; omega
 run := by rw [ph20_step h hp hpb, hs]; exact pref_pref _ _ _
theorem ph20_stop {x : XR} {y : X20} (h : ph20 x y) {p : Pt} (hp : x.l[y.i]? = some p) (hpb : pb x.l y.i = true -> p.kind = 4) (hs : stepM x.lens x.extra x.bs y.B p = .stop)
   {gv : Value} {rel : Rel TT} (hr : relLe y.rel rel) : ps20 x ⟨gv, y.gl, rel, y.its, true, y.B.length⟩ where
 run := by rw [ph20_step h hp hpb, hs]; simp [pref]
 its := itsOK_mono hr h.its
 rel := h.rel.trans hr
 left := h.all
 len := by have := h.len; have := h.i; dsimp only; omega
theorem ph20_end {x : XR} {y : X20} (h : ph20 x y) (hi : y.i = x.l.length) {gv : Value} : ps20 x ⟨gv, y.gl, y.rel, y.its, false, y.B.length⟩ where
 run := by rw [h.run, hi, List.drop_length, readM]; simp [pref]
 its := h.its
 rel := h.rel
 left := h.all
 len := by have := h.len; dsimp only; omega
theorem ph20_bad {x : XR} {y : X20} (h : ph20 x y) {p : Pt} (hp : x.l[y.i]? = some p) (hpb : pb x.l y.i = true -> p.kind = 4) (hs : stepM x.lens x.extra x.bs y.B p = .bad) : bad20 x := by
 unfold bad20; rw [ph20_step h hp hpb, hs]; rfl
theorem ph20_behind {x : XR} {y : X20} (h : ph20 x y) {p : Pt} (hp : x.l[y.i]? = some p) (hpb : pb x.l y.i = true) (hk : p.kind ≠ 4) : bad20 x := by
 unfold bad20; rw [h.run, drop_at hp, readM, if_pos ⟨hk, hpb⟩]; rfl
theorem lensOf_canon (l : List Nat) : lensOf (canonL l) = l := by
 unfold lensOf canonL
 refine List.ext_getElem? fun j => ?_
 rw [List.getElem?_map, List.getElem?_mapIdx]
 cases l[j]? <;> simp
end Pc
/-
 Contracts of the sources that are read: bytes.Reader, bytesReader.
-/
set_option linter.unusedVariables false
set_option maxRecDepth 100000
open Go Go.Vg Go.Proofs
namespace Pc
noncomputable def CH (G : Gl) (h : Nat) : Ctx TT := { CC G with hintP := fun t => cond (Nat.beq t 23) (some (h, 3)) none }
theorem spec_CH {G : Gl} {h f : Nat} {pt : PT TT} (hs : SpecOK (CC G) f pt) : SpecOK (CH G h) f pt := ⟨hs.enters, fun args H K Kp w hp hI => by
 have := hs.calls args H K Kp w hp ⟨⟨hI.1.ents, hI.1.apart, hI.1.lt, hI.1.glob⟩, hI.2⟩
 refine this.mono ?_
 rintro e w' (⟨r, H', he, hk, hH', hr, hst⟩ | ⟨r, H', he, hk, hH', hr, hst⟩)
 . exact .inl ⟨r, H', he, hk, ⟨hH'.ents, hH'.apart, hH'.lt, hH'.glob⟩, hr, hst⟩
 . exact .inr ⟨r, H', he, hk, ⟨hH'.ents, hH'.apart, hH'.lt, hH'.glob⟩, hr, hst⟩⟩
theorem spec_CC {G : Gl} {h f : Nat} {pt : PT TT} (hs : SpecOK (CH G h) f pt) : SpecOK (CC G) f pt := ⟨hs.enters, fun args H K Kp w hp hI => by
 have := hs.calls args H K Kp w hp ⟨⟨hI.1.ents, hI.1.apart, hI.1.lt, hI.1.glob⟩, hI.2⟩
 refine this.mono ?_
 rintro e w' (⟨r, H', he, hk, hH', hr, hst⟩ | ⟨r, H', he, hk, hH', hr, hst⟩)
 . exact .inl ⟨r, H', he, hk, ⟨hH'.ents, hH'.apart, hH'.lt, hH'.glob⟩, hr, hst⟩
 . exact .inr ⟨r, H', he, hk, ⟨hH'.ents, hH'.apart, hH'.lt, hH'.glob⟩, hr, hst⟩⟩
noncomputable def INH (G : Gl) (h : Nat) (base : Nat -> Option (PT TT)) (ann : Nat -> Ann TT) : Nat -> Option (PT TT) := inl (CH G h) base (bodyW ann) 12
theorem specH (G : Gl) (hh : Nat) {base : Nat -> Option (PT TT)} (hb : ∀ f pt, base f = some pt -> SpecOK (CC G) f pt) {f : Nat} {fn : Func} (hf : fnOf f = some fn) (anns : Nat -> Ann TT) (c : Ctr TT) (ann : c.X -> Ann TT)
   (h : ∀ x, c.phi x -> Met (fnx (CH G hh) (INH G hh base anns) (ann x) fn (c.args x) (c.H x) (outK true (c.H x).length (c.ret x)) (c.pan x))) : SpecOK (CC G) f c.pt := by
 obtain ⟨h1, h2, h3, h4⟩ := fnOf_ok G f fn hf
 refine spec_CC (h := hh) ?_
 have hz : ZOK (CH G hh) := zok G
 have hm : (CH G hh).P.follows .mixedOrders = true := mixed G
 exact ctr_okX hz (inl_ok hz hm (fun f pt h => spec_CH (hb f pt h)) (bodyW_ok G anns) 12) hm h1 h2 h3 h4 true c ann h
def vw (b : Nat) (arr : List Int) (bs : List Nat) (v : Value) (n q : Nat) : Prop :=
 (v = .slice none 0 0 /\ n = 0) \/ ∃ lo cap, v = .slice (some ⟨b, 3 + lo * 1, none⟩) n cap /\ n <= cap /\ lo + cap <= 512 /\ q + n <= bs.length /\ (arr.drop lo).take n = ints ((bs.drop q).take n)
theorem vw_nil (b : Nat) (arr : List Int) (bs : List Nat) (q : Nat) : vw b arr bs (.slice none 0 0) 0 q := .inl ⟨rfl, rfl⟩
theorem vw_cap {b : Nat} {arr : List Int} {bs : List Nat} {v : Value} {n q : Nat} (h : vw b arr bs v n q) : n <= capVal v := by
 rcases h with ⟨rfl, rfl⟩ | ⟨lo, cap, rfl, h, _⟩
 . exact Nat.zero_le _
 . exact h
theorem vw_end {b : Nat} {arr : List Int} {bs : List Nat} {v : Value} {n q : Nat} (h : vw b arr bs v n q) : n = 0 \/ q + n <= bs.length := by
 rcases h with ⟨rfl, rfl⟩ | ⟨lo, cap, rfl, _, _, h, _⟩
 . exact .inl rfl
 . exact .inr h
theorem vw_sub {b : Nat} {arr : List Int} {bs : List Nat} {v : Value} {n q l u : Nat} (h : vw b arr bs v n q) (h1 : l <= u) (h2 : u <= n) : vw b arr bs (sliceVal v l u 1) (u - l) (q + l) := by
 rcases h with ⟨rfl, rfl⟩ | ⟨lo, cap, rfl, h3, h4, h5, h6⟩
 . have : u = 0 := by omega
   subst this
   have : l = 0 := by omega
   subst this
   exact .inl ⟨rfl, rfl⟩
 . refine .inr ?_
   by_cases hc : cap = l
   . subst hc
     have : u = cap := by omega
     subst this
     exact ⟨lo, 0, by simp [sliceVal], by omega, by omega, by omega, by simp [ints]⟩
   . refine ⟨lo + l, cap - l, ?_, by omega, by omega, by omega, ?_⟩
     . simp only [sliceVal, if_neg hc, Option.map_some, Addr.add]
       by_cases h0 : l * 1 = 0
       . rw [if_pos h0]; simp at h0; subst h0; simp
       . rw [if_neg h0]; simp; omega
     . have e1 : (arr.drop (lo + l)).take (u - l) = (((arr.drop lo).take n).drop l).take (u - l) := by
         rw [List.drop_take, List.drop_drop, List.take_take, Nat.min_eq_left (by omega)]
       have e2 : (bs.drop (q + l)).take (u - l) = (((bs.drop q).take n).drop l).take (u - l) := by
         rw [List.drop_take, List.drop_drop, List.take_take, Nat.min_eq_left (by omega)]
       rw [e1, e2, h6]
       simp [ints, List.map_drop, List.map_take]
theorem vw_at {b : Nat} {arr : List Int} {bs : List Nat} {v : Value} {n q q' : Nat} (h : vw b arr bs v n q) (hq : q = q') : vw b arr bs v n q' := hq ▸ h
structure RB where
 m : Fz
 rel : Rel TT
 bb : Nat
 sb : Nat
 pos : Nat
 bv : Value
 bn : Nat
 arr : List Int
 vs : Value
 bs : List Nat
 i : Nat
 prev : Int
def segB (h sb pos : Nat) (bv : Value) (bn : Nat) (arr : List Int) : List (Seg TT) := [.c (.p h sb (.lit 0)), .c (iv .i64 pos), .c (.w bv bn), .r 5 512 arr]
def segS (vs : Value) (bs : List Nat) (i : Nat) (prev : Int) : List (Seg TT) := [.c (.ro 5 vs (ints bs)), .c (iv .i64 i), .c (.v (.int .i64 prev))]
def RB.H (x : RB) : List (Ent TT) := [.F x.m, .R x.rel, .B x.bb 190 (segB 3 x.sb x.pos x.bv x.bn x.arr), .B x.sb 198 (segS x.vs x.bs x.i x.prev)]
def getRB : List (Ent TT) -> Option RB
 | [.F m, .R rel, .B bb 190 [.c (.p 3 sb _), .c (.v (.int _ pos)), .c (.w bv bn), .r 5 512 arr], .B _ 198 [.c (.ro 5 vs l), .c (.v (.int _ i)), .c (.v (.int _ prev))]] => some ⟨m, rel, bb, sb, pos.toNat, bv, bn, arr, vs, nats l, i.toNat, prev⟩
 | _ => none
structure rbOK (x : RB) : Prop where
 arr : x.arr.length = 512
 pi : x.pos <= x.i
 il : x.i <= x.bs.length
 len : x.bs.length <= 1000000
 view : vw x.bb x.arr x.bs x.bv x.bn x.pos
def c217 : Ctr TT where
 X := RB
 find a H := match a with
   | [.p 2 _ (.lit 0)] => getRB H
   | _ => none
 phi := rbOK
 args x := [.p 2 x.bb (.lit 0)]
 H x := x.H
 outs := [{ Y := fun _ => Value × Nat, psi := fun x y => y.2 = x.bn - (x.i - x.pos) /\ vw x.bb x.arr x.bs y.1 y.2 x.i, res := fun _ _ => .t [], H := fun x y => RB.H { x with pos := x.i, bv := y.1, bn := y.2, prev := -1 } }]
def c212 : Ctr TT where
 X := RB
 find a H := match a with
   | [.p 2 _ (.lit 0)] => getRB H
   | _ => none
 phi := rbOK
 args x := [.p 2 x.bb (.lit 0)]
 H x := x.H
 outs := [{ Y := fun _ => Value × Nat, psi := fun x y => y.2 = x.bn - (x.i - x.pos) /\ vw x.bb x.arr x.bs y.1 y.2 x.i, res := fun _ y => iv .i64 y.2, H := fun x y => RB.H { x with pos := x.i, bv := y.1, bn := y.2, prev := -1 } }]
def c213 : Ctr TT where
 X := RB × Nat
 find a H := match a with
   | [.p 2 _ (.lit 0), .v (.int .i64 n)] => match getRB H with
     | some x => some (x, n.toNat)
     | none => none
   | _ => none
 phi x := rbOK x.1 /\ x.1.i + x.2 <= x.1.bs.length
 args x := [.p 2 x.1.bb (.lit 0), iv .i64 x.2]
 H x := x.1.H
 outs := [{ Y := fun _ => Unit, psi := fun x y => True, res := fun x y => .t [iv .i64 x.2, .v .nilIface], H := fun x y => RB.H { x.1 with i := x.1.i + x.2, prev := -1 } }]
structure Y214 where
 pv : Value
 bv : Value
 bn : Nat
 arr : List Int
structure pk214 (x : RB) (n pn : Nat) (y : Y214) : Prop where
 arr : y.arr.length = 512
 peek : vw x.bb y.arr x.bs y.pv pn x.i
 view : vw x.bb y.arr x.bs y.bv y.bn x.i
 more : pn <= y.bn
def c214 (G : Gl) : Ctr TT where
 X := RB × Nat
 find a H := match a with
   | [.p 2 _ (.lit 0), .v (.int .i64 n)] => match getRB H with
     | some x => some (x, n.toNat)
     | none => none
   | _ => none
 phi x := rbOK x.1 /\ x.2 <= 512
 args x := [.p 2 x.1.bb (.lit 0), iv .i64 x.2]
 H x := x.1.H
 outs := [
   { Y := fun _ => Y214, psi := fun x y => x.2 <= x.1.bs.length - x.1.i /\ pk214 x.1 x.2 x.2 y, res := fun x y => .t [.w y.pv x.2, .v .nilIface],
     H := fun x y => RB.H { x.1 with pos := x.1.i, bv := y.bv, bn := y.bn, arr := y.arr, prev := -1 } },
   { Y := fun _ => Y214, psi := fun x y => x.1.bs.length - x.1.i < x.2 /\ pk214 x.1 x.2 (x.1.bs.length - x.1.i) y, res := fun x y => .t [.w y.pv (x.1.bs.length - x.1.i), .v (errV G.E)],
     H := fun x y => RB.H { x.1 with pos := x.1.i, bv := y.bv, bn := y.bn, arr := y.arr, prev := -1 } }]
def b217 : Nat -> Option (PT TT)
 | 217 => some (loc [none] c217.pt)
 | _ => none
end Pc
/-
 Contracts of the reader of bits (over a bytes.Reader).
-/
set_option linter.unusedVariables false
set_option maxRecDepth 100000
open Go Go.Vg Go.Proofs
namespace Pc
/-! ReverseLUT -/
def c164 : Ctr TT where
 X := Fz × Rel TT × Nat
 find a H := match a, H with
   | [.v (.int .u8 n)], [.F m, .R rel] => some (m, rel, n.toNat)
   | _, _ => none
 phi x := x.2.2 < 256
 args x := [iv .u8 x.2.2]
 H x := fr2 x.1 x.2.1
 outs := [{ Y := fun _ => Unit, psi := fun _ _ => True, res := fun x _ => iv .u8 (numL (byteBits true x.2.2)), H := fun x _ => fr2 x.1 x.2.1 }]
theorem bt_div (v n k : Nat) : bt (v / 2 ^ n) k = bt v (n + k) := by
 unfold bt; rw [Nat.div_div_eq_div_mul, <- Nat.pow_add]
theorem bt_or (a b k : Nat) : bt (a ||| b) k = max (bt a k) (bt b k) := by
 rw [bt_test, bt_test, bt_test, Nat.testBit_or]
 cases a.testBit k <;> cases b.testBit k <;> rfl
theorem bt_shl (v n k : Nat) : bt (v * 2 ^ n) k = if n <= k then bt v (k - n) else 0 := by
 rw [bt_test, bt_test, Nat.mul_comm, Nat.testBit_two_pow_mul]
 by_cases h : n <= k
 . rw [if_pos h]; simp [h]
 . rw [if_neg h]; simp [h]
theorem bt_modp (v n k : Nat) : bt (v % 2 ^ n) k = if k < n then bt v k else 0 := by
 rw [bt_test, bt_test, Nat.testBit_mod_two_pow]
 by_cases h : k < n
 . rw [if_pos h]; simp [h]
 . rw [if_neg h]; simp [h]
theorem mod_bt {a b n : Nat} (h : ∀ k, k < n -> bt a k = bt b k) : a % 2 ^ n = b % 2 ^ n := by
 refine eq_bt (n := n) (Nat.mod_lt _ (Nat.pow_pos (by decide))) (Nat.mod_lt _ (Nat.pow_pos (by decide))) fun k hk => ?_
 rw [bt_modp, bt_modp, if_pos hk, if_pos hk, h k hk]
theorem bitsOf_drop (big : Bool) : ∀ (q : Nat) (bs : List Nat), (bitsOf big bs).drop (8 * q) = bitsOf big (bs.drop q)
 | 0, bs => by simp
 | q + 1, [] => by simp [bitsOf]
 | q + 1, b :: r => by
   rw [bitsOf_cons, List.drop_succ_cons, <- bitsOf_drop big q r, show 8 * (q + 1) = 8 + 8 * q by omega, <- List.drop_drop]
   congr 1
theorem bitsOf_take (big : Bool) : ∀ (q : Nat) (bs : List Nat), (bitsOf big bs).take (8 * q) = bitsOf big (bs.take q)
 | 0, bs => by simp [bitsOf]
 | q + 1, [] => by simp [bitsOf]
 | q + 1, b :: r => by
   rw [bitsOf_cons, List.take_succ_cons, bitsOf_cons, <- bitsOf_take big q r, show 8 * (q + 1) = (byteBits big b).length + 8 * q by rw [byteBits_len]; omega, List.take_length_add_append]
theorem stream_drop (big : Bool) (bs : List Nat) {q : Nat} (h : q <= bs.length) : numL (bitsOf big bs) / 2 ^ (8 * q) = numL (bitsOf big (bs.drop q)) := by
 rw [<- bitsOf_drop, numL_drop (bitsOf_lt _ _) (by rw [bitsOf_len]; omega)]
theorem stream_lt (big : Bool) (bs : List Nat) : numL (bitsOf big bs) < 2 ^ (8 * bs.length) := by
 have := numL_lt (bitsOf_lt big bs); rwa [bitsOf_len] at this
theorem byte_num : ∀ n : Fin 256, numL (byteBits false n.val) = n.val := by decide +kernel
theorem wd8_mod (big : Bool) (bs : List Nat) {q : Nat} (h : q + 8 <= bs.length) : numL (bitsOf big ((bs.drop q).take 8)) = numL (bitsOf big bs) / 2 ^ (8 * q) % 2 ^ 64 := by
 rw [stream_drop big bs (by omega), <- bitsOf_take, numL_take (bitsOf_lt _ _) (by rw [bitsOf_len, List.length_drop]; omega)]
theorem byte_mod (big : Bool) {bs : List Nat} {q c : Nat} (h : bs[q]? = some c) : numL (byteBits big c) = numL (bitsOf big bs) / 2 ^ (8 * q) % 2 ^ 8 := by
 have hq := (List.getElem?_eq_some_iff.1 h).1
 rw [stream_drop big bs (by omega)]
 have : bs.drop q = c :: bs.drop (q + 1) := by
   obtain ⟨h1, rfl⟩ := List.getElem?_eq_some_iff.1 h
   exact (List.getElem_cons_drop h1).symm
 have hlt := numL_lt (byteBits_lt big c)
 rw [byteBits_len] at hlt
 rw [this, bitsOf_cons, numL_app, byteBits_len, Nat.add_mul_mod_self_left, Nat.mod_eq_of_lt hlt]
structure bkOK (W bits num : Nat) : Prop where
 n : num <= 64
 lt : bits < 2 ^ 64
 low : ∀ k, k < num -> bt bits k = bt W k
 up : ∀ k, bt bits k <= bt W k
theorem bk_more {W bits num V m : Nat} (h : bkOK W bits num) (hV : V = W / 2 ^ num % 2 ^ m) {m' : Nat} (hm : m' <= m) (h64 : num + m' <= 64) : bkOK W (bits ||| (V * 2 ^ num % 2 ^ 64)) (num + m') where
 n := h64
 lt := Nat.or_lt_two_pow h.lt (Nat.mod_lt _ (by decide))
 low := fun k hk => by
   rw [bt_or, bt_modp, if_pos (by omega), bt_shl]
   by_cases h1 : num <= k
   . rw [if_pos h1, hV, bt_modp, if_pos (by omega), bt_div, show num + (k - num) = k by omega]
     have := h.up k
     omega
   . rw [if_neg h1, h.low k (by omega)]; omega
 up := fun k => by
   have hu := h.up k
   rw [bt_or, bt_modp]
   by_cases h0 : k < 64
   . rw [if_pos h0, bt_shl]
     by_cases h1 : num <= k
     . rw [if_pos h1, hV, bt_modp]
       by_cases h2 : k - num < m
       . rw [if_pos h2, bt_div, show num + (k - num) = k by omega]; omega
       . rw [if_neg h2]; omega
     . rw [if_neg h1]; omega
   . rw [if_neg h0]; omega
theorem bk_less {W bits num : Nat} (h : bkOK W bits num) {nb : Nat} (hn : nb <= num) : bkOK (W / 2 ^ nb) (bits / 2 ^ nb) (num - nb) where
 n := by have := h.n; omega
 lt := Nat.lt_of_le_of_lt (Nat.div_le_self _ _) h.lt
 low := fun k hk => by rw [bt_div, bt_div]; exact h.low _ (by omega)
 up := fun k => by rw [bt_div, bt_div]; exact h.up _
theorem bk_val {W bits num : Nat} (h : bkOK W bits num) {nb : Nat} (hn : nb <= num) : bits % 2 ^ nb = W % 2 ^ nb := mod_bt fun k hk => h.low k (by omega)
structure RS where
 m : Fz
 rel : Rel TT
 rb : Nat
 sb : Nat
 bb : Nat
 vs : Value
 bs : List Nat
 big : Bool
 P : Nat
 off : Nat
 bits : Nat
 num : Nat
 pk : Value
 pkn : Nat
 dis : Int
 fed : Nat
 pos : Nat
 bv : Value
 bn : Nat
 arr : List Int
 prev : Int
def nilP : Seg TT := .c (.v (.pointer none))
def segR (hs hb sb bb off bits num : Nat) (big : Bool) (pk : Value) (pkn : Nat) (dis : Int) (fed : Nat) : List (Seg TT) :=
 [.c (iv .i64 off), .c (.i 110 (.p hs sb (.lit 0))), .c (.v .nilIface), .c (.i 105 (.p hb bb (.lit 0))), .c (iv .u64 bits), .c (iv .u64 num), .c (bv big), .c (.w pk pkn), .c (.v (.int .i64 dis)), .c (iv .u64 fed),
  nilP, .c (.p hb bb (.lit 0)), nilP]
def RS.H (x : RS) : List (Ent TT) := [.F x.m, .R x.rel, .B x.rb 108 (segR 3 4 x.sb x.bb x.off x.bits x.num x.big x.pk x.pkn x.dis x.fed), .B x.sb 198 (segS x.vs x.bs x.off x.prev), .B x.bb 190 (segB 3 x.sb x.pos x.bv x.bn x.arr)]
def RS.H3 (x : RS) : List (Nat × Ent TT) := [(2, .B x.rb 108 (segR 3 4 x.sb x.bb x.off x.bits x.num x.big x.pk x.pkn x.dis x.fed)), (3, .B x.sb 198 (segS x.vs x.bs x.off x.prev)), (4, .B x.bb 190 (segB 3 x.sb x.pos x.bv x.bn x.arr))]
def getRS (P : Nat) : List (Ent TT) -> Option RS
 | [.F m, .R rel, .B rb 108 [.c (.v (.int _ off)), .c (.i 110 (.p 3 sb _)), .c (.v .nilIface), .c (.i 105 (.p 4 bb _)), .c (.v (.int _ bits)), .c (.v (.int _ num)), .c (.v (.bool big)), .c (.w pk pkn), .c (.v (.int _ dis)), .c (.v (.int _ fed)), _, _, _],
     .B _ 198 [.c (.ro 5 vs l), .c (.v (.int _ i)), .c (.v (.int _ prev))], .B _ 190 [.c (.p 3 _ _), .c (.v (.int _ pos)), .c (.w bv bn), .r 5 512 arr]] =>
   some ⟨m, rel, rb, sb, bb, vs, nats l, big, P, off.toNat, bits.toNat, num.toNat, pk, pkn, dis, fed.toNat, pos.toNat, bv, bn, arr, prev⟩
 | _ => none
def RS.W (x : RS) : Nat := numL (bitsOf x.big x.bs) / 2 ^ x.P
def RS.q (x : RS) : Nat := (x.P + x.num) / 8
structure rsL (x : RS) : Prop where
 bytes : ∀ b ∈ x.bs, b < 256
 len : x.bs.length <= 1000000
 bk : bkOK x.W x.bits x.num
 al : (x.P + x.num) % 8 = 0
 end_ : x.P + x.num <= 8 * x.bs.length
 off : x.off <= (x.P + 7) / 8
 pos : x.pos <= x.off
 arr : x.arr.length = 512
 pk : vw x.bb x.arr x.bs x.pk x.pkn x.q
 bv : vw x.bb x.arr x.bs x.bv x.bn x.pos
 cov : x.q + x.pkn <= x.pos + x.bn \/ (x.pkn = 0 /\ x.q <= (x.P + 7) / 8)
structure rsOK (x : RS) : Prop where
 l : rsL x
 dis : x.dis = (x.P : Int) - 8 * x.off - (x.fed - x.num)
 fed : x.num <= x.fed /\ x.fed <= 64
structure rsW (x : RS) : Prop where
 bytes : ∀ b ∈ x.bs, b < 256
 len : x.bs.length <= 1000000
 n : x.num <= 64
 al : (x.P + x.num) % 8 = 0
 end_ : x.P + x.num <= 8 * x.bs.length
 off : x.off <= (x.P + 7) / 8
 pos : x.pos <= x.off
 arr : x.arr.length = 512
 pk : vw x.bb x.arr x.bs x.pk x.pkn x.q
 bv : vw x.bb x.arr x.bs x.bv x.bn x.pos
 cov : x.q + x.pkn <= x.pos + x.bn \/ (x.pkn = 0 /\ x.q <= (x.P + 7) / 8)
 dis : x.dis = (x.P : Int) - 8 * x.off - (x.fed - x.num)
 fed : x.num <= x.fed /\ x.fed <= 64
theorem rsOK.w {x : RS} (h : rsOK x) : rsW x := ⟨h.l.bytes, h.l.len, h.l.bk.n, h.l.al, h.l.end_, h.l.off, h.l.pos, h.l.arr, h.l.pk, h.l.bv, h.l.cov, h.dis, h.fed⟩
/-! Flush -/
def RS.flushed (x : RS) : RS := { x with
 off := (x.P + 7) / 8
 pk := .slice none 0 0
 pkn := 0
 fed := x.num
 dis := (x.P : Int) - 8 * ((x.P + 7) / 8 : Nat)
 prev := -1 }
def c80 (P : Nat) : Ctr TT where
 X := RS
 find a H := match a with
   | [.p 2 _ (.lit 0)] => getRS P H
   | _ => none
 phi x := rsW x
 args x := [.p 2 x.rb (.lit 0)]
 H x := x.H
 outs := [{ Y := fun _ => Unit, psi := fun _ _ => True, res := fun x _ => .t [iv .i64 ((x.P + 7) / 8), .v .nilIface], H := fun x y => x.flushed.H }]
def b80 : Nat -> Option (PT TT)
 | 213 => some (loc [none, none] c213.pt)
 | _ => none
theorem lut_ok : ∀ n : Fin 256, bitI BinOp.or IntKind.u8 (shrI IntKind.u8 (bitI BinOp.and IntKind.u8 (bitI BinOp.or IntKind.u8 (shrI IntKind.u8 (bitI BinOp.and IntKind.u8 (bitI BinOp.or IntKind.u8 (shrI IntKind.u8 (bitI BinOp.and IntKind.u8 (n.val : Int) (170 : Int)) (1 : Int)) (shlI IntKind.u8 (bitI BinOp.and IntKind.u8 (n.val : Int) (85 : Int)) (1 : Int))) (204 : Int)) (2 : Int)) (shlI IntKind.u8 (bitI BinOp.and IntKind.u8 (bitI BinOp.or IntKind.u8 (shrI IntKind.u8 (bitI BinOp.and IntKind.u8 (n.val : Int) (170 : Int)) (1 : Int)) (shlI IntKind.u8 (bitI BinOp.and IntKind.u8 (n.val : Int) (85 : Int)) (1 : Int))) (51 : Int)) (2 : Int))) (240 : Int)) (4 : Int)) (shlI IntKind.u8 (bitI BinOp.and IntKind.u8 (bitI BinOp.or IntKind.u8 (shrI IntKind.u8 (bitI BinOp.and IntKind.u8 (bitI BinOp.or IntKind.u8 (shrI IntKind.u8 (bitI BinOp.and IntKind.u8 (n.val : Int) (170 : Int)) (1 : Int)) (shlI IntKind.u8 (bitI BinOp.and IntKind.u8 (n.val : Int) (85 : Int)) (1 : Int))) (204 : Int)) (2 : Int)) (shlI IntKind.u8 (bitI BinOp.and IntKind.u8 (bitI BinOp.or IntKind.u8 (shrI IntKind.u8 (bitI BinOp.and IntKind.u8 (n.val : Int) (170 : Int)) (1 : Int)) (shlI IntKind.u8 (bitI BinOp.and IntKind.u8 (n.val : Int) (85 : Int)) (1 : Int))) (51 : Int)) (2 : Int))) (15 : Int)) (4 : Int)) = (↑(numL (byteBits true n.val)) : Int) := by decide +kernel
end Pc
/-
 The contract of PullBits.
-/
set_option linter.unusedVariables false
set_option maxRecDepth 100000
open Go Go.Vg Go.Proofs
namespace Pc
structure RV where
 off : Nat
 bits : Nat
 num : Nat
 pk : Value
 pkn : Nat
 dis : Int
 fed : Nat
 pos : Nat
 bv : Value
 bn : Nat
 arr : List Int
 prev : Int
def RS.put (x : RS) (v : RV) : RS := { x with
 off := v.off
 bits := v.bits
 num := v.num
 pk := v.pk
 pkn := v.pkn
 dis := v.dis
 fed := v.fed
 pos := v.pos
 bv := v.bv
 bn := v.bn
 arr := v.arr
 prev := v.prev }
def getRV : List (Ent TT) -> Option RV
 | [_, _, .B rb 108 [.c (.v (.int _ off)), _, _, _, .c (.v (.int _ bits)), .c (.v (.int _ num)), _, .c (.w pk pkn), .c (.v (.int _ dis)), .c (.v (.int _ fed)), _, _, _],
     .B _ 198 [_, _, .c (.v (.int _ prev))], .B _ 190 [_, .c (.v (.int _ pos)), .c (.w bv bn), .r 5 512 arr]] =>
   some ⟨off.toNat, bits.toNat, num.toNat, pk, pkn, dis, fed.toNat, pos.toNat, bv, bn, arr, prev⟩
 | _ => none
structure plOK (x : RS) (v : RV) : Prop where
 l : rsL (x.put v)
 dis : v.dis = (x.P : Int) - 8 * v.off
 fed : v.fed <= 64
structure pulled (x : RS) (nb : Nat) (v : RV) : Prop where
 ok : rsOK (x.put v)
 num : nb <= v.num
structure dry (x : RS) (nb : Nat) (v : RV) : Prop where
 ok : rsOK (x.put v)
 num : v.num < nb
 all : x.P + v.num = 8 * x.bs.length
def c143 (G : Gl) (P : Nat) : Ctr TT where
 X := RS × Nat
 find a H := match a with
   | [.p 2 _ (.lit 0), .v (.int .u64 n)] => match getRS P H with
     | some x => some (x, n.toNat)
     | none => none
   | _ => none
 phi x := rsOK x.1 /\ x.2 <= 56
 args x := [.p 2 x.1.rb (.lit 0), iv .u64 x.2]
 H x := x.1.H
 outs := [
   { Y := fun _ => RV, psi := fun x y => pulled x.1 x.2 y, res := fun x _ => .v .nilIface, H := fun x y => (x.1.put y).H },
   { Y := fun _ => RV, psi := fun x y => dry x.1 x.2 y, res := fun x _ => .v (errV G.U), H := fun x y => (x.1.put y).H }]
def wd8 (big : Bool) (bs : List Nat) (q : Nat) : Nat := numL (bitsOf big ((bs.drop q).take 8))
structure flOK (x : RS) (v : RV) : Prop where
 l : rsL (x.put v)
 dis : v.dis = (x.P : Int) - 8 * v.off
 fed : v.fed = v.num
 off : v.off = (x.P + 7) / 8
 pos : v.pos = v.off
 pkn : v.pkn = 0
noncomputable def a143 (x : RS) (nb : Nat) : Ann TT := fun r S => match r with
 | 3 => some {
   X := RV
   phi := fun v => plOK x v
   fr := fun v => []
   H := fun v => (x.put v).H3
   mu := fun v => 64 - v.num }
 | 5012 => match getRV S.H with
     | some s => some {
       X := RV × Nat
       phi := fun v => flOK x v.1 /\ v.1.num = s.num /\ (nb + 7) / 8 <= v.2 /\ v.1.bn <= v.2 /\ v.2 <= 512
       fr := fun v => [(7, .v .nilIface), (8, iv .i64 v.2)]
       H := fun v => (x.put v.1).H3
       mu := fun v => 0 }
     | none => none
 | 5019 => match getRV S.H with
     | some s => some {
       X := RV
       phi := fun v => plOK x v /\ 0 < v.pkn /\ v.num = s.num
       fr := fun v => []
       H := fun v => (x.put v).H3
       mu := fun v => 0 }
     | none => none
 | 5022 => match getRV S.H with
     | some s => some {
       X := Unit
       phi := fun _ => True
       fr := fun _ => [(10, iv .u64 (wd8 false x.bs ((x.P + s.num) / 8)))]
       H := fun _ => []
       mu := fun v => 0 }
     | none => none
 | 5026 => match getRV S.H with
     | some s => some {
       X := Unit
       phi := fun _ => True
       fr := fun _ => [(10, iv .u64 (wd8 x.big x.bs ((x.P + s.num) / 8)))]
       H := fun _ => []
       mu := fun v => 0 }
     | none => none
 | 5031 => match getRV S.H with
     | some s => some {
       X := Unit
       phi := fun _ => True
       fr := fun _ => [(9, iv .i64 (min ((64 - s.num) / 8) s.pkn))]
       H := fun _ => []
       mu := fun v => 0 }
     | none => none
 | 5041 => some {
       X := RV
       phi := fun v => plOK x v /\ nb <= v.num
       fr := fun v => []
       H := fun v => (x.put v).H3
       mu := fun v => 0 }
 | 32 => match getRV S.H, S.get 9 with
     | some s, some (.v (.int _ n)) => some {
       X := Nat × Nat
       phi := fun y => y.1 <= n.toNat /\ bkOK x.W y.2 (s.num + 8 * y.1)
       fr := fun y => [(215, iv .i64 y.1)]
       H := fun y => [(2, .B x.rb 108 (segR 3 4 x.sb x.bb s.off y.2 (s.num + 8 * y.1) x.big s.pk s.pkn s.dis s.fed))]
       mu := fun y => n.toNat - y.1 }
     | _, _ => none
 | _ => none
noncomputable def b143 (G : Gl) : Nat -> Option (PT TT)
 | 80 => some (exPT fun P => loc [none] (c80 P).pt)
 | 164 => some (loc [none] c164.pt)
 | 212 => some (loc [none] c212.pt)
 | 213 => some (loc [none, none] c213.pt)
 | 214 => some (loc [none, none] (c214 G).pt)
 | _ => none
end Pc
/-
 PullBits: what its steps keep.
-/
set_option linter.unusedVariables false
set_option maxRecDepth 100000
open Go Go.Vg Go.Proofs
namespace Pc
theorem pl_enter {x : RS} (h : rsOK x) : plOK x ⟨x.off, x.bits, x.num, x.pk, x.pkn, x.dis + ((x.fed : Int) - x.num), x.fed, x.pos, x.bv, x.bn, x.arr, x.prev⟩ where
 l := ⟨h.l.bytes, h.l.len, h.l.bk, h.l.al, h.l.end_, h.l.off, h.l.pos, h.l.arr, h.l.pk, h.l.bv, h.l.cov⟩
 dis := by have := h.dis; dsimp only; omega
 fed := h.fed.2
theorem fl_mk {x : RS} {v : RV} (h : plOK x v) (hp : v.pkn = 0) {bv : Value} {bn : Nat} (hbn : bn = v.bn - ((x.P + 7) / 8 - v.pos)) (hv : vw x.bb v.arr x.bs bv bn ((x.P + 7) / 8)) {arr : List Int} (harr : arr = v.arr) {dis : Int} (hd : dis = (x.P : Int) - 8 * ((x.P + 7) / 8 : Nat)) :
   flOK x ⟨(x.P + 7) / 8, v.bits, v.num, .slice none 0 0, 0, dis, v.num, (x.P + 7) / 8, bv, bn, arr, -1⟩ where
 l := ⟨h.l.bytes, h.l.len, h.l.bk, h.l.al, h.l.end_, Nat.le_refl _, Nat.le_refl _, by subst harr; exact h.l.arr, vw_nil _ _ _ _, by subst harr; exact hv, by
   have h1 : ((x.P + v.num) / 8) + v.pkn <= v.pos + v.bn \/ (v.pkn = 0 /\ (x.P + v.num) / 8 <= (x.P + 7) / 8) := h.l.cov
   have h2 : v.pos <= v.off := h.l.pos
   have h3 : v.off <= (x.P + 7) / 8 := h.l.off
   show ((x.P + v.num) / 8) + 0 <= (x.P + 7) / 8 + bn \/ ((0 : Nat) = 0 /\ (x.P + v.num) / 8 <= (x.P + 7) / 8)
   omega⟩
 dis := hd
 fed := rfl
 off := rfl
 pos := rfl
 pkn := rfl
theorem fl_skip {x : RS} {v : RV} (h : flOK x v) : (x.P + v.num) / 8 = v.off + v.num / 8 /\ v.off + v.num / 8 <= x.bs.length /\ v.num / 8 <= v.bn := by
 have h1 : ((x.P + v.num) / 8) + v.pkn <= v.pos + v.bn \/ (v.pkn = 0 /\ (x.P + v.num) / 8 <= (x.P + 7) / 8) := h.l.cov
 have h2 : (x.P + v.num) % 8 = 0 := h.l.al
 have h3 : x.P + v.num <= 8 * x.bs.length := h.l.end_
 have h4 := h.off
 have h5 := h.pos
 have h6 := h.pkn
 omega
theorem pl_peek {x : RS} {v : RV} (h : flOK x v) {pn : Nat} (hl : v.num / 8 <= pn) {y : Y214} (ha : y.arr.length = 512) (hp : vw x.bb y.arr x.bs y.pv pn v.off) (hv : vw x.bb y.arr x.bs y.bv y.bn v.off) (hm : pn <= y.bn) :
   plOK x ⟨v.off, v.bits, v.num, sliceVal y.pv (v.num / 8) pn 1, pn - v.num / 8, v.dis, v.fed, v.off, y.bv, y.bn, y.arr, -1⟩ where
 l := ⟨h.l.bytes, h.l.len, h.l.bk, h.l.al, h.l.end_, h.l.off, Nat.le_refl _, ha, by
   have h1 := (fl_skip h).1
   exact vw_at (vw_sub hp hl (Nat.le_refl _)) h1.symm, hv, by
   have h1 := (fl_skip h).1
   show ((x.P + v.num) / 8) + (pn - v.num / 8) <= v.off + y.bn \/ _
   omega⟩
 dis := h.dis
 fed := by have := h.fed; have h0 : v.num <= 64 := h.l.bk.n; dsimp only; omega
theorem pulled_mk {x : RS} {v : RV} {nb : Nat} (h : plOK x v) (hn : nb <= v.num) : pulled x nb ⟨v.off, v.bits, v.num, v.pk, v.pkn, v.dis, v.num, v.pos, v.bv, v.bn, v.arr, v.prev⟩ where
 ok := ⟨⟨h.l.bytes, h.l.len, h.l.bk, h.l.al, h.l.end_, h.l.off, h.l.pos, h.l.arr, h.l.pk, h.l.bv, h.l.cov⟩, by
   have := h.dis
   show v.dis = (x.P : Int) - 8 * v.off - ((v.num : Int) - v.num)
   omega, Nat.le_refl _, h.l.bk.n⟩
 num := hn
theorem dry_mk {x : RS} {v : RV} {nb : Nat} (h : plOK x v) (hf : v.fed = v.num) (hn : v.num < nb) (ha : x.P + v.num = 8 * x.bs.length) : dry x nb v where
 ok := ⟨h.l, by
   have := h.dis
   show v.dis = (x.P : Int) - 8 * v.off - ((v.fed : Int) - v.num)
   omega, by show v.num <= v.fed; omega, h.fed⟩
 num := hn
 all := ha
theorem pl_more {x : RS} {v : RV} (h : plOK x v) {n bits num : Nat} (hn : n <= v.pkn) (hp : 0 < v.pkn) (hbk : bkOK x.W bits num) (hnum : num = v.num + 8 * n) :
   plOK x ⟨v.off, bits, num, sliceVal v.pk n v.pkn 1, v.pkn - n, v.dis, v.fed, v.pos, v.bv, v.bn, v.arr, v.prev⟩ where
 l := by
   have al : (x.P + v.num) % 8 = 0 := h.l.al
   have cov : ((x.P + v.num) / 8) + v.pkn <= v.pos + v.bn \/ (v.pkn = 0 /\ (x.P + v.num) / 8 <= (x.P + 7) / 8) := h.l.cov
   have pk : vw x.bb v.arr x.bs v.pk v.pkn ((x.P + v.num) / 8) := h.l.pk
   have he := vw_end pk
   have en : x.P + v.num <= 8 * x.bs.length := h.l.end_
   refine ⟨h.l.bytes, h.l.len, hbk, ?_, ?_, h.l.off, h.l.pos, h.l.arr, ?_, h.l.bv, ?_⟩
   . show (x.P + num) % 8 = 0
     omega
   . show x.P + num <= 8 * x.bs.length
     omega
   . exact vw_at (vw_sub pk hn (Nat.le_refl _)) (show (x.P + v.num) / 8 + n = (x.P + num) / 8 by omega)
   . show ((x.P + num) / 8) + (v.pkn - n) <= v.pos + v.bn \/ _
     omega
 dis := h.dis
 fed := h.fed
theorem ceil8 : ∀ n : Fin 57, IntKind.u64.wrap ((n.val : Int) + bitI BinOp.and IntKind.u64 (IntKind.u64.wrap (0 - (n.val : Int))) 7) = ((8 * ((n.val + 7) / 8) : Nat) : Int) := by decide +kernel
theorem W_at {x : RS} {v : RV} (h : plOK x v) : x.W / 2 ^ v.num = numL (bitsOf x.big x.bs) / 2 ^ (8 * ((x.P + v.num) / 8)) := by
 have al : (x.P + v.num) % 8 = 0 := h.l.al
 unfold RS.W
 rw [Nat.div_div_eq_div_mul, <- Nat.pow_add]
 congr 2; omega
end Pc
/-
 PullBits: eight bytes at once.
-/
set_option linter.unusedVariables false
set_option maxRecDepth 100000
open Go Go.Vg Go.Proofs
namespace Pc
theorem vw_get {b : Nat} {arr : List Int} {bs : List Nat} {v : Value} {n q : Nat} (h : vw b arr bs v n q) (hn : 0 < n) : ∃ lo cap, v = .slice (some ⟨b, 3 + lo * 1, none⟩) n cap /\ lo + n <= 512 /\ ∀ i z, i < n -> arr[lo + i]? = some z -> ∃ c, bs[q + i]? = some c /\ z = (c : Int) := by
 rcases h with ⟨_, h⟩ | ⟨lo, cap, h1, h2, h3, h4, h5⟩
 . omega
 . refine ⟨lo, cap, h1, by omega, fun i z hi hz => ?_⟩
   have e1 : ((arr.drop lo).take n)[i]? = some z := by rw [List.getElem?_take_of_lt hi, List.getElem?_drop]; exact hz
   rw [h5] at e1
   obtain ⟨c, hc, rfl⟩ := ints_get e1
   rw [List.getElem?_take_of_lt hi, List.getElem?_drop] at hc
   exact ⟨c, hc, rfl⟩
theorem w8_step {a c n : Nat} (ha : a < 2 ^ n) (hc : c < 256) (hn : n <= 56) : bitI BinOp.or IntKind.u64 (a : Int) (shlI IntKind.u64 (IntKind.u64.wrap (c : Int)) (n : Int)) = ((a + 2 ^ n * c : Nat) : Int) := by
 have h1 : (2 : Nat) ^ n <= 2 ^ 56 := Nat.pow_le_pow_right (by decide) hn
 have h2 : c * 2 ^ n <= 255 * 2 ^ n := Nat.mul_le_mul_right _ (by omega)
 rw [wrId rfl (by simp only [IntKind.bits]; omega), shlN rfl, show min n IntKind.u64.bits = n by simp only [IntKind.bits]; omega, Nat.mod_eq_of_lt (by simp only [IntKind.bits]; omega), orN rfl (by simp only [IntKind.bits]; omega) (by simp only [IntKind.bits]; omega), or_add ha]
theorem byte_cons {c : Nat} (hc : c < 256) (r : List Nat) : numL (bitsOf false (c :: r)) = c + 256 * numL (bitsOf false r) := by
 rw [bitsOf_cons, numL_app, byteBits_len, byte_num ⟨c, hc⟩]
theorem word8 {c0 c1 c2 c3 c4 c5 c6 c7 : Nat} (h0 : c0 < 256) (h1 : c1 < 256) (h2 : c2 < 256) (h3 : c3 < 256) (h4 : c4 < 256) (h5 : c5 < 256) (h6 : c6 < 256) (h7 : c7 < 256) :
   (bitI BinOp.or IntKind.u64 (bitI BinOp.or IntKind.u64 (bitI BinOp.or IntKind.u64 (bitI BinOp.or IntKind.u64 (bitI BinOp.or IntKind.u64 (bitI BinOp.or IntKind.u64 (bitI BinOp.or IntKind.u64 (IntKind.wrap IntKind.u64 (c0 : Int)) (shlI IntKind.u64 (IntKind.wrap IntKind.u64 (c1 : Int)) (8 : Int))) (shlI IntKind.u64 (IntKind.wrap IntKind.u64 (c2 : Int)) (16 : Int))) (shlI IntKind.u64 (IntKind.wrap IntKind.u64 (c3 : Int)) (24 : Int))) (shlI IntKind.u64 (IntKind.wrap IntKind.u64 (c4 : Int)) (32 : Int))) (shlI IntKind.u64 (IntKind.wrap IntKind.u64 (c5 : Int)) (40 : Int))) (shlI IntKind.u64 (IntKind.wrap IntKind.u64 (c6 : Int)) (48 : Int))) (shlI IntKind.u64 (IntKind.wrap IntKind.u64 (c7 : Int)) (56 : Int))) = ((numL (bitsOf false [c0, c1, c2, c3, c4, c5, c6, c7]) : Nat) : Int) := by
 rw [wrId (n := c0) rfl (by simp only [IntKind.bits]; omega), show (8 : Int) = ((8 : Nat) : Int) from rfl, w8_step (by omega) h1 (by omega), show (16 : Int) = ((16 : Nat) : Int) from rfl, w8_step (by omega) h2 (by omega), show (24 : Int) = ((24 : Nat) : Int) from rfl, w8_step (by omega) h3 (by omega),
   show (32 : Int) = ((32 : Nat) : Int) from rfl, w8_step (by omega) h4 (by omega), show (40 : Int) = ((40 : Nat) : Int) from rfl, w8_step (by omega) h5 (by omega), show (48 : Int) = ((48 : Nat) : Int) from rfl, w8_step (by omega) h6 (by omega), show (56 : Int) = ((56 : Nat) : Int) from rfl, w8_step (by omega) h7 (by omega)]
 rw [byte_cons h0, byte_cons h1, byte_cons h2, byte_cons h3, byte_cons h4, byte_cons h5, byte_cons h6, byte_cons h7]
 have : numL (bitsOf false []) = 0 := rfl
 rw [this]
 omega
theorem drop_at' {α : Type} {l : List α} {i : Nat} {p : α} (h : l[i]? = some p) : l.drop i = p :: l.drop (i + 1) := by
 obtain ⟨h1, rfl⟩ := List.getElem?_eq_some_iff.1 h
 exact (List.getElem_cons_drop h1).symm
theorem eight {bs : List Nat} {q c0 c1 c2 c3 c4 c5 c6 c7 : Nat} (h0 : bs[q + 0]? = some c0) (h1 : bs[q + 1]? = some c1) (h2 : bs[q + 2]? = some c2) (h3 : bs[q + 3]? = some c3) (h4 : bs[q + 4]? = some c4) (h5 : bs[q + 5]? = some c5) (h6 : bs[q + 6]? = some c6) (h7 : bs[q + 7]? = some c7) :
   (bs.drop q).take 8 = [c0, c1, c2, c3, c4, c5, c6, c7] := by
 rw [drop_at' (i := q) h0, drop_at' h1, drop_at' h2, drop_at' h3, drop_at' h4, drop_at' h5, drop_at' h6, drop_at' h7]
 rfl
theorem bits_get (big : Bool) : ∀ (l : List Nat) (i j : Nat), i < l.length -> j < 8 -> (bitsOf big l)[8 * i + j]? = some (bt (l.getD i 0) (if big = true then 7 - j else j))
 | [], i, j, h, _ => by simp at h
 | c :: r, 0, j, h, hj => by
   rw [bitsOf_cons, List.getElem?_append_left (by rw [byteBits_len]; omega)]
   simp only [byteBits, List.getElem?_map, Nat.mul_zero, Nat.zero_add, List.getElem?_range hj, Option.map_some, List.getD_cons_zero]
 | c :: r, i + 1, j, h, hj => by
   rw [bitsOf_cons, List.getElem?_append_right (by rw [byteBits_len]; omega), byteBits_len, show 8 * (i + 1) + j - 8 = 8 * i + j by omega, bits_get big r i j (by simpa using h) hj]
   simp
theorem bt_and (a b k : Nat) : bt (a &&& b) k = bt a k * bt b k := by
 rw [bt_test, bt_test, bt_test, Nat.testBit_and]
 cases a.testBit k <;> cases b.testBit k <;> rfl
def sw (s k : Nat) : Nat := if k / s % 2 = 0 then k + s else k - s
def stage (u hi lo s : Nat) : Nat := (u &&& hi) / 2 ^ s ||| (u &&& lo) * 2 ^ s % 2 ^ 64
theorem stage_run {u hi lo s : Nat} (hu : u < 2 ^ 64) (hh : hi < 2 ^ 64) (hl : lo < 2 ^ 64) (hs : s < 64) : bitI BinOp.or IntKind.u64 (shrI IntKind.u64 (bitI BinOp.and IntKind.u64 (u : Int) (hi : Int)) (s : Int)) (shlI IntKind.u64 (bitI BinOp.and IntKind.u64 (u : Int) (lo : Int)) (s : Int)) = ((stage u hi lo s : Nat) : Int) := by
 have h1 : u &&& hi < 2 ^ 64 := Nat.lt_of_le_of_lt Nat.and_le_left hu
 rw [andN rfl hu hh, andN rfl hu hl, shrN, shlN rfl, show min s IntKind.u64.bits = s by simp only [IntKind.bits]; omega, orN rfl]
 . rfl
 . exact Nat.lt_of_le_of_lt (Nat.div_le_self _ _) h1
 . exact Nat.mod_lt _ (by decide)
theorem stage_lt {u hi lo s : Nat} (hu : u < 2 ^ 64) : stage u hi lo s < 2 ^ 64 :=
 Nat.or_lt_two_pow (Nat.lt_of_le_of_lt (Nat.div_le_self _ _) (Nat.lt_of_le_of_lt Nat.and_le_left hu)) (Nat.mod_lt _ (by decide))
theorem stage_bt {u hi lo s : Nat} (hu : u < 2 ^ 64) (hm : ∀ k : Fin 64, (k.val / s % 2 = 0 -> k.val + s < 64 /\ bt hi (k.val + s) = 1 /\ (s <= k.val -> bt lo (k.val - s) = 0)) /\ (k.val / s % 2 ≠ 0 -> bt hi (k.val + s) = 0 /\ s <= k.val /\ bt lo (k.val - s) = 1)) {k : Nat} (hk : k < 64) :
   bt (stage u hi lo s) k = bt u (sw s k) := by
 obtain ⟨h1, h2⟩ := hm ⟨k, hk⟩
 dsimp only at h1 h2
 have hb := bt_lt u (k + s)
 unfold stage sw
 rw [bt_or, bt_div, bt_modp, if_pos hk, bt_shl, bt_and, bt_and, Nat.add_comm s k]
 by_cases h : k / s % 2 = 0
 . obtain ⟨h3, h4, h5⟩ := h1 h
   rw [if_pos h, h4]
   by_cases h6 : s <= k
   . rw [if_pos h6, h5 h6]; omega
   . rw [if_neg h6]; omega
 . obtain ⟨h3, h4, h5⟩ := h2 h
   rw [if_neg h, h3, if_pos h4, h5]; omega
theorem sw_all : ∀ k : Fin 64, sw 1 (sw 2 (sw 4 k.val)) = 8 * (k.val / 8) + (7 - k.val % 8) /\ sw 4 k.val < 64 /\ sw 2 (sw 4 k.val) < 64 := by decide +kernel
theorem m1 : ∀ k : Fin 64, (k.val / 1 % 2 = 0 -> k.val + 1 < 64 /\ bt 12297829382473034410 (k.val + 1) = 1 /\ (1 <= k.val -> bt 6148914691236517205 (k.val - 1) = 0)) /\ (k.val / 1 % 2 ≠ 0 -> bt 12297829382473034410 (k.val + 1) = 0 /\ 1 <= k.val /\ bt 6148914691236517205 (k.val - 1) = 1) := by decide +kernel
theorem m2 : ∀ k : Fin 64, (k.val / 2 % 2 = 0 -> k.val + 2 < 64 /\ bt 14757395258967641292 (k.val + 2) = 1 /\ (2 <= k.val -> bt 3689348814741910323 (k.val - 2) = 0)) /\ (k.val / 2 % 2 ≠ 0 -> bt 14757395258967641292 (k.val + 2) = 0 /\ 2 <= k.val /\ bt 3689348814741910323 (k.val - 2) = 1) := by decide +kernel
theorem m4 : ∀ k : Fin 64, (k.val / 4 % 2 = 0 -> k.val + 4 < 64 /\ bt 17361641481138401520 (k.val + 4) = 1 /\ (4 <= k.val -> bt 1085102592571150095 (k.val - 4) = 0)) /\ (k.val / 4 % 2 ≠ 0 -> bt 17361641481138401520 (k.val + 4) = 0 /\ 4 <= k.val /\ bt 1085102592571150095 (k.val - 4) = 1) := by decide +kernel
theorem swap8 {l : List Nat} (hl : l.length = 8) : stage (stage (stage (numL (bitsOf false l)) 12297829382473034410 6148914691236517205 1) 14757395258967641292 3689348814741910323 2) 17361641481138401520 1085102592571150095 4 = numL (bitsOf true l) := by
 have hu : numL (bitsOf false l) < 2 ^ 64 := by have := stream_lt false l; rwa [hl] at this
 have hv : numL (bitsOf true l) < 2 ^ 64 := by have := stream_lt true l; rwa [hl] at this
 refine eq_bt (n := 64) (stage_lt (stage_lt (stage_lt hu))) hv fun k hk => ?_
 obtain ⟨e1, e2, e3⟩ := sw_all ⟨k, hk⟩
 dsimp only at e1 e2 e3
 rw [stage_bt (stage_lt (stage_lt hu)) m4 hk, stage_bt (stage_lt hu) m2 e2, stage_bt hu m1 e3, e1]
 rw [numL_bt (bitsOf_lt _ _) (bits_get false l (k / 8) (7 - k % 8) (by omega) (by omega))]
 have := numL_bt (bitsOf_lt true l) (bits_get true l (k / 8) (k % 8) (by omega) (by omega))
 rw [show 8 * (k / 8) + k % 8 = k by omega] at this
 rw [this]
 simp
end Pc
/-
 Writing, in plain Lean: bits of numbers, what is written, bytes of bits; what was written is read back.
-/
set_option linter.unusedVariables false
open Go Go.Vg
namespace Pc
def nb (v n : Nat) : List Nat := (List.range n).map fun k => bt v k
theorem nb_len (v n : Nat) : (nb v n).length = n := by simp [nb]
theorem nb_lt (v n : Nat) : ∀ b ∈ nb v n, b < 2 := fun b hb => by
 unfold nb at hb
 rw [List.mem_map] at hb
 obtain ⟨k, _, rfl⟩ := hb
 exact bt_lt v k
theorem nb_zero (v : Nat) : nb v 0 = [] := rfl
theorem nb_succ (v n : Nat) : nb v (n + 1) = nb v n ++ [bt v n] := by simp [nb, List.range_succ]
theorem nb_get {v n k : Nat} (h : k < n) : (nb v n)[k]? = some (bt v k) := by
 unfold nb
 rw [List.getElem?_map, List.getElem?_range h, Option.map_some]
theorem nb_num (v n : Nat) : numL (nb v n) = v % 2 ^ n := by
 have h1 := numL_lt (nb_lt v n)
 rw [nb_len] at h1
 refine eq_bt (n := n) h1 (Nat.mod_lt _ (Nat.pow_pos (by decide))) fun k hk => ?_
 rw [numL_bt (nb_lt v n) (nb_get hk), bt_mod hk]
theorem nb_ext {B : List Nat} {v n : Nat} (hl : B.length = n) (h : ∀ k, k < n -> B[k]? = some (bt v k)) : B = nb v n := by
 apply List.ext_getElem?
 intro k
 by_cases hk : k < n
 . rw [h k hk, nb_get hk]
 . rw [List.getElem?_eq_none (by omega), List.getElem?_eq_none (by rw [nb_len]; omega)]
theorem nb_add (v a b : Nat) : nb v (a + b) = nb v a ++ nb (v / 2 ^ a) b := by
 refine (nb_ext (by simp [nb_len]) fun k hk => ?_).symm
 by_cases h : k < a
 . rw [List.getElem?_append_left (by rw [nb_len]; exact h), nb_get h]
 . rw [List.getElem?_append_right (by rw [nb_len]; omega), nb_len, nb_get (by omega), bt_div, show a + (k - a) = k by omega]
theorem nb_or {b v m n : Nat} (hb : b < 2 ^ m) (h64 : m + n <= 64) : nb (b ||| (v * 2 ^ m % 2 ^ 64)) (m + n) = nb b m ++ nb v n := by
 refine (nb_ext (by simp [nb_len]) fun k hk => ?_).symm
 rw [bt_or, bt_modp, if_pos (by omega), bt_shl]
 by_cases h : k < m
 . rw [List.getElem?_append_left (by rw [nb_len]; exact h), nb_get h, if_neg (by omega)]; simp
 . rw [List.getElem?_append_right (by rw [nb_len]; omega), nb_len, nb_get (by omega), if_pos (by omega), bt_over hb (by omega)]; simp
/-! What is written -/
def codeV (lens : List Nat) (i : Nat) : Nat := rev (nx lens (lens.getD i 0) i) (lens.getD i 0)
def codeB (lens : List Nat) (i : Nat) : List Nat := nb (codeV lens i) (lens.getD i 0)
def rgM (extra : List Nat) (v : Nat) : Option Nat := (List.range extra.length).find? fun i => decide (sum2 (extra.take i) <= v /\ v < sum2 (extra.take (i + 1)))
def padN (n : Nat) : Nat := (8 - n % 8) % 8
def putM (lens extra : List Nat) (big : Bool) (len : Nat) (p : Pt) (s : List Nat) : Option (List Nat) :=
 if p.kind = 0 then (if p.v.toNat < 2 ^ p.n.toNat then some (nb p.v.toNat p.n.toNat) else none)
 else if p.kind = 1 then (if p.v.toNat < lens.length then some (codeB lens p.v.toNat) else none)
 else if p.kind = 2 then (match rgM extra p.v.toNat with
   | none => none
   | some i => if i < lens.length then some (codeB lens i ++ nb (p.v.toNat - sum2 (extra.take i)) (extra.getD i 0)) else none)
 else if p.kind = 3 then (if p.v.toNat < 2 ^ padN len then some (nb p.v.toNat (padN len)) else none)
 else if p.kind = 4 then (if len % 8 = 0 then some (bitsOf big s) else none)
 else none
def wrM (lens extra : List Nat) (big : Bool) : List (Pt × List Nat) -> List Nat -> Option (List Nat)
 | [], B => some B
 | (p, s) :: r, B => match putM lens extra big B.length p s with
   | none => none
   | some C => wrM lens extra big r (B ++ C)
theorem wrM_snoc (lens extra : List Nat) (big : Bool) : ∀ (l : List (Pt × List Nat)) (p : Pt) (s : List Nat) (B : List Nat), wrM lens extra big (l ++ [(p, s)]) B = (wrM lens extra big l B).bind fun C => (putM lens extra big C.length p s).map (C ++ ·)
 | [], p, s, B => by
   simp only [List.nil_append, wrM, Option.bind_some]
   cases putM lens extra big B.length p s <;> rfl
 | (q, t) :: r, p, s, B => by
   simp only [List.cons_append, wrM]
   cases putM lens extra big B.length q t with
   | none => rfl
   | some C => exact wrM_snoc lens extra big r p s (B ++ C)
theorem wrM_pre {lens extra : List Nat} {big : Bool} : ∀ {l : List (Pt × List Nat)} {B C : List Nat}, wrM lens extra big l B = some C -> ∃ D, C = B ++ D
 | [], B, C, h => ⟨[], by simp only [wrM, Option.some.injEq] at h; simp [h]⟩
 | (p, s) :: r, B, C, h => by
   simp only [wrM] at h
   split at h
   . cases h
   . obtain ⟨D, rfl⟩ := wrM_pre h
     exact ⟨_, List.append_assoc _ _ _⟩
theorem wrM_none {lens extra : List Nat} {big : Bool} : ∀ {l : List (Pt × List Nat)} (i : Nat) {B : List Nat}, wrM lens extra big (l.take i) B = none -> wrM lens extra big l B = none
 | l, 0, B, h => by simp [wrM] at h
 | [], i + 1, B, h => by simpa using h
 | (p, s) :: r, i + 1, B, h => by
   simp only [List.take_succ_cons, wrM] at h ⊢
   split
   . rfl
   . rename_i C hC
     rw [hC] at h
     exact wrM_none i h
theorem putM_lt {lens extra : List Nat} {big : Bool} {len : Nat} {p : Pt} {s C : List Nat} (h : putM lens extra big len p s = some C) : ∀ b ∈ C, b < 2 := by
 unfold putM at h
 split at h
 . split at h
   . cases h; exact nb_lt _ _
   . cases h
 . split at h
   . split at h
     . cases h; exact nb_lt _ _
     . cases h
   . split at h
     . split at h
       . cases h
       . split at h
         . cases h
           intro b hb
           rcases List.mem_append.1 hb with hb | hb
           . exact nb_lt _ _ b hb
           . exact nb_lt _ _ b hb
         . cases h
     . split at h
       . split at h
         . cases h; exact nb_lt _ _
         . cases h
       . split at h
         . split at h
           . cases h; exact bitsOf_lt _ _
           . cases h
         . cases h
/-! Ranges -/
theorem sum2_mono : ∀ {l : List Nat} {i j : Nat}, i <= j -> sum2 (l.take i) <= sum2 (l.take j)
 | [], i, j, h => by simp
 | a :: r, 0, j, h => by simp [sum2]
 | a :: r, i + 1, 0, h => by omega
 | a :: r, i + 1, j + 1, h => by
   simp only [List.take_succ_cons, sum2]
   have := sum2_mono (l := r) (i := i) (j := j) (by omega)
   omega
theorem rgM_some {extra : List Nat} {v i : Nat} (h : rgM extra v = some i) : i < extra.length /\ sum2 (extra.take i) <= v /\ v < sum2 (extra.take (i + 1)) := by
 unfold rgM at h
 exact ⟨List.mem_range.1 (List.mem_of_find?_eq_some h), by simpa using List.find?_some h⟩
theorem rgM_eq {extra : List Nat} {v i : Nat} (h : i < extra.length) (h1 : sum2 (extra.take i) <= v) (h2 : v < sum2 (extra.take (i + 1))) : rgM extra v = some i := by
 cases hr : rgM extra v with
 | none =>
   have := List.find?_eq_none.1 hr i (List.mem_range.2 h)
   simp [h1, h2] at this
 | some j =>
   obtain ⟨h3, h4, h5⟩ := rgM_some hr
   congr 1
   rcases Nat.lt_trichotomy i j with h6 | h6 | h6
   . have := sum2_mono (l := extra) (i := i + 1) (j := j) (by omega); omega
   . exact h6.symm
   . have := sum2_mono (l := extra) (i := j + 1) (j := i) (by omega); omega
theorem rgM_none {extra : List Nat} {v : Nat} (h : ∀ i, i < extra.length -> ¬ (sum2 (extra.take i) <= v /\ v < sum2 (extra.take (i + 1)))) : rgM extra v = none := by
 cases hr : rgM extra v with
 | none => rfl
 | some j =>
   obtain ⟨h3, h4, h5⟩ := rgM_some hr
   exact absurd ⟨h4, h5⟩ (h j h3)
theorem sum2_at {extra : List Nat} {i : Nat} (h : i < extra.length) : sum2 (extra.take (i + 1)) = sum2 (extra.take i) + 2 ^ extra.getD i 0 := by
 rw [List.getD_eq_getElem?_getD, List.getElem?_eq_getElem h, Option.getD_some]
 exact sum2_next (List.getElem?_eq_getElem h)
/-! Bytes of bits -/
theorem bits_inj (big : Bool) {a b : List Nat} (ha : ∀ x ∈ a, x < 256) (hb : ∀ x ∈ b, x < 256) (h : bitsOf big a = bitsOf big b) : a = b := by
 have hl : a.length = b.length := by
   have := congrArg List.length h
   rw [bitsOf_len, bitsOf_len] at this; omega
 apply List.ext_getElem?
 intro i
 by_cases hi : i < a.length
 . have e1 : a.getD i 0 = a[i] := by rw [List.getD_eq_getElem?_getD, List.getElem?_eq_getElem hi]; rfl
   have e2 : b.getD i 0 = b[i] := by rw [List.getD_eq_getElem?_getD, List.getElem?_eq_getElem (by omega : i < b.length)]; rfl
   rw [List.getElem?_eq_getElem hi, List.getElem?_eq_getElem (by omega : i < b.length)]
   congr 1
   have h1 : a[i] < 2 ^ 8 := ha _ (List.getElem_mem hi)
   have h2 : b[i] < 2 ^ 8 := hb _ (List.getElem_mem (by omega : i < b.length))
   refine eq_bt (n := 8) h1 h2 fun k hk => ?_
   have g1 := bits_get big a i (if big = true then 7 - k else k) hi (by split <;> omega)
   have g2 := bits_get big b i (if big = true then 7 - k else k) (by omega) (by split <;> omega)
   rw [h, g2, e1, e2] at g1
   have g1 := Option.some.inj g1
   cases big
   . simpa using g1.symm
   . simp only [if_true] at g1
     rw [show 7 - (7 - k) = k by omega] at g1
     exact g1.symm
 . rw [List.getElem?_eq_none (by omega), List.getElem?_eq_none (by omega)]
def pkB (big : Bool) (B : List Nat) (j : Nat) : Nat := numL ((List.range 8).map fun k => B.getD (8 * j + (if big = true then 7 - k else k)) 0 % 2)
theorem pkB_list (big : Bool) (B : List Nat) (j : Nat) : ∀ b ∈ (List.range 8).map fun k => B.getD (8 * j + (if big = true then 7 - k else k)) 0 % 2, b < 2 := fun b hb => by
 rw [List.mem_map] at hb
 obtain ⟨k, _, rfl⟩ := hb
 exact Nat.mod_lt _ (by decide)
theorem pkB_lt (big : Bool) (B : List Nat) (j : Nat) : pkB big B j < 256 := by
 have := numL_lt (pkB_list big B j)
 rw [List.length_map, List.length_range] at this
 exact this
theorem pkB_bt (big : Bool) (B : List Nat) (j k : Nat) (hk : k < 8) : bt (pkB big B j) k = B.getD (8 * j + (if big = true then 7 - k else k)) 0 % 2 := by
 refine numL_bt (pkB_list big B j) ?_
 rw [List.getElem?_map, List.getElem?_range hk, Option.map_some]
def packL (big : Bool) (B : List Nat) (m : Nat) : List Nat := (List.range m).map fun j => pkB big B j
theorem packL_len (big : Bool) (B : List Nat) (m : Nat) : (packL big B m).length = m := by simp [packL]
theorem packL_lt (big : Bool) (B : List Nat) (m : Nat) : ∀ b ∈ packL big B m, b < 256 := fun b hb => by
 unfold packL at hb
 rw [List.mem_map] at hb
 obtain ⟨j, _, rfl⟩ := hb
 exact pkB_lt _ _ _
theorem packL_get {big : Bool} {B : List Nat} {m j : Nat} (h : j < m) : (packL big B m)[j]? = some (pkB big B j) := by
 unfold packL
 rw [List.getElem?_map, List.getElem?_range h, Option.map_some]
theorem packL_bits {big : Bool} {B : List Nat} {m : Nat} (hB : ∀ b ∈ B, b < 2) (hm : B.length <= 8 * m) : bitsOf big (packL big B m) = B ++ List.replicate (8 * m - B.length) 0 := by
 apply List.ext_getElem?
 intro i
 by_cases hi : i < 8 * m
 . have e : i = 8 * (i / 8) + i % 8 := by omega
   have h1 : i / 8 < m := by omega
   have g := bits_get big (packL big B m) (i / 8) (i % 8) (by rw [packL_len]; exact h1) (by omega)
   rw [<- e] at g
   rw [g, List.getD_eq_getElem?_getD, packL_get h1, Option.getD_some, pkB_bt big B _ _ (by split <;> omega)]
   have e2 : 8 * (i / 8) + (if big = true then 7 - (if big = true then 7 - i % 8 else i % 8) else (if big = true then 7 - i % 8 else i % 8)) = i := by
     cases big
     . simp only [Bool.false_eq_true, if_false]; omega
     . simp only [if_true]; omega
   rw [e2]
   by_cases h2 : i < B.length
   . rw [List.getElem?_append_left h2, List.getElem?_eq_getElem h2, List.getD_eq_getElem?_getD, List.getElem?_eq_getElem h2, Option.getD_some, Nat.mod_eq_of_lt (hB _ (List.getElem_mem h2))]
   . rw [List.getElem?_append_right (by omega), List.getElem?_replicate, if_pos (by omega), List.getD_eq_getElem?_getD, List.getElem?_eq_none (by omega)]
     rfl
 . rw [List.getElem?_eq_none (by rw [bitsOf_len, packL_len]; omega), List.getElem?_eq_none (by rw [List.length_append, List.length_replicate]; omega)]
/-! What was written is read back -/
def askOf (p : Pt × List Nat) : Pt := if p.1.kind = 4 then { p.1 with n := (p.2.length : Int) } else p.1
def agrees (it : RIt) (p : Pt × List Nat) : Prop := it.k = p.1.kind /\ (p.1.kind ≠ 4 -> it.v = p.1.v.toNat) /\ (p.1.kind = 4 -> it.s = p.2)
theorem step_back {lens extra bs C D : List Nat} {big : Bool} {len : Nat} {p : Pt} {s : List Nat} (hg : Good lens) (hbs : ∀ b ∈ bs, b < 256) (hs : ∀ b ∈ s, b < 256) (h : putM lens extra big len p s = some C) (hlen : (len + (C ++ D).length) % 8 = 0)
   (hT : (bitsOf big bs).drop len = C ++ D) (hle : len + (C ++ D).length = 8 * bs.length) :
   ∃ it, stepM lens extra bs (C ++ D) (askOf (p, s)) = .got it C.length /\ agrees it (p, s) := by
 unfold putM at h
 unfold stepM askOf agrees
 dsimp only
 by_cases k0 : p.kind = 0
 . rw [if_pos k0] at h
   split at h
   . rename_i hv
     cases h
     rw [if_neg (by omega : ¬ p.kind = 4), if_pos k0, if_neg (by rw [List.length_append, nb_len]; omega), nb_len]
     exact ⟨_, rfl, k0.symm, fun _ => by dsimp only; rw [List.take_left' (nb_len _ _), nb_num, Nat.mod_eq_of_lt hv], fun h => by omega⟩
   . cases h
 rw [if_neg k0] at h
 have hsym : ∀ i D', i < lens.length -> cl lens (numL (codeB lens i ++ D')) = lens.getD i 0 /\ symM lens (codeB lens i ++ D') = some i := fun i D' hi => by
   have hcd : cd lens (numL (codeB lens i ++ D')) = i := by
     refine cd_eq hg hi ?_
     unfold hit
     rw [numL_app, codeB, nb_len, Nat.add_mul_mod_self_left, nb_num, Nat.mod_mod, codeV, Nat.mod_eq_of_lt (rev_lt _ _)]
   have hcl : cl lens (numL (codeB lens i ++ D')) = lens.getD i 0 := by unfold cl; rw [hcd]
   refine ⟨hcl, ?_⟩
   unfold symM
   rw [hcl, hcd, if_pos (by rw [List.length_append, codeB, nb_len]; omega)]
 by_cases k1 : p.kind = 1
 . rw [if_pos k1] at h
   split at h
   . rename_i hv
     cases h
     rw [if_neg (by omega : ¬ p.kind = 4), if_neg k0, if_pos k1, (hsym _ _ hv).2]
     exact ⟨_, by rw [codeB, nb_len], k1.symm, fun _ => rfl, fun h => by omega⟩
   . cases h
 rw [if_neg k1] at h
 by_cases k2 : p.kind = 2
 . rw [if_pos k2] at h
   split at h
   . cases h
   . rename_i i hr
     split at h
     . rename_i hi
       cases h
       obtain ⟨h1, h2, h3⟩ := rgM_some hr
       have h4 := sum2_at h1
       rw [if_neg (by omega : ¬ p.kind = 4), if_neg k0, if_neg k1, if_pos k2, List.append_assoc, (hsym _ _ hi).2]
       dsimp only
       have hcb : (codeB lens i).length = lens.getD i 0 := nb_len _ _
       rw [if_neg (by omega), if_neg (by rw [List.length_append, List.length_append, hcb, nb_len]; omega)]
       refine ⟨_, by rw [List.length_append, hcb, nb_len], k2.symm, fun _ => ?_, fun h => by omega⟩
       dsimp only
       rw [List.drop_left' hcb, List.take_left' (nb_len _ _), nb_num, Nat.mod_eq_of_lt (by omega)]
       have hb : (rgL 0 extra)[i]? = some ⟨((0 + sum2 (extra.take i) : Nat) : Int), ((extra.getD i 0 : Nat) : Int)⟩ := by
         have hlt : i < (rgL 0 extra).length := by rw [rgL_len]; exact h1
         obtain ⟨n, hn, hr⟩ := rgL_sum (List.getElem?_eq_getElem hlt)
         rw [List.getElem?_eq_getElem hlt, hr]
         have : extra.getD i 0 = n := by rw [List.getD_eq_getElem?_getD, hn]; rfl
         rw [this]
       rw [List.getD_eq_getElem?_getD, hb, Option.getD_some]
       dsimp only
       rw [Int.toNat_natCast]
       omega
     . cases h
 rw [if_neg k2] at h
 by_cases k3 : p.kind = 3
 . rw [if_pos k3] at h
   split at h
   . rename_i hv
     cases h
     have e : (nb p.v.toNat (padN len) ++ D).length % 8 = padN len := by unfold padN at *; omega
     rw [if_neg (by omega : ¬ p.kind = 4), if_neg k0, if_neg k1, if_neg k2, if_pos k3, e, nb_len]
     exact ⟨_, rfl, k3.symm, fun _ => by dsimp only; rw [List.take_left' (nb_len _ _), nb_num, Nat.mod_eq_of_lt hv], fun h => by omega⟩
   . cases h
 rw [if_neg k3] at h
 by_cases k4 : p.kind = 4
 . rw [if_pos k4] at h
   split at h
   . rename_i hv
     cases h
     rw [if_pos k4]
     dsimp only
     rw [if_neg k0, if_neg k1, if_neg k2, if_neg k3, if_pos k4, Int.toNat_natCast, if_neg (by omega), if_neg (by rw [List.length_append, bitsOf_len]; omega), bitsOf_len]
     refine ⟨_, rfl, k4.symm, fun h => absurd k4 h, fun _ => ?_⟩
     dsimp only
     have hq : bs.length - (bitsOf big s ++ D).length / 8 = len / 8 := by omega
     rw [hq]
     refine bits_inj big (fun x hx => hbs x (List.mem_of_mem_drop (List.mem_of_mem_take hx))) hs ?_
     rw [<- bitsOf_take, <- bitsOf_drop, show 8 * (len / 8) = len by omega, hT, List.take_left' (bitsOf_len _ _)]
   . cases h
 . rw [if_neg k4] at h; cases h
end Pc
/-
 Contracts of the reader's small methods.
-/
set_option linter.unusedVariables false
set_option maxRecDepth 100000
open Go Go.Vg Go.Proofs
namespace Pc
def RS.adv (x : RS) (v : RV) (n : Nat) : RS := { x.put v with P := x.P + n }
structure took (x : RS) (n : Nat) (v : RV) : Prop where
 ok : rsOK (x.adv v n)
 all : x.P + n <= 8 * x.bs.length
structure lacks (x : RS) (n : Nat) (v : RV) : Prop where
 ok : rsOK (x.put v)
 all : 8 * x.bs.length < x.P + n
theorem rs_m {x y : RS} (h : rsOK x) (e : y = { x with m := y.m, rel := y.rel }) : rsOK y := by
 rw [e]
 exact ⟨⟨h.l.bytes, h.l.len, h.l.bk, h.l.al, h.l.end_, h.l.off, h.l.pos, h.l.arr, h.l.pk, h.l.bv, h.l.cov⟩, h.dis, h.fed⟩
theorem rs_take {x : RS} {v : RV} (h : rsOK (x.put v)) {n : Nat} (hn : n <= v.num) : took x n { v with bits := v.bits / 2 ^ n, num := v.num - n } where
 ok := by
   have al : (x.P + v.num) % 8 = 0 := h.l.al
   have en : x.P + v.num <= 8 * x.bs.length := h.l.end_
   have off : v.off <= (x.P + 7) / 8 := h.l.off
   have pk : vw x.bb v.arr x.bs v.pk v.pkn ((x.P + v.num) / 8) := h.l.pk
   have cov : ((x.P + v.num) / 8) + v.pkn <= v.pos + v.bn \/ (v.pkn = 0 /\ (x.P + v.num) / 8 <= (x.P + 7) / 8) := h.l.cov
   have dis : v.dis = (x.P : Int) - 8 * v.off - ((v.fed : Int) - v.num) := h.dis
   have fed : v.num <= v.fed /\ v.fed <= 64 := h.fed
   refine ⟨⟨h.l.bytes, h.l.len, ?_, ?_, ?_, ?_, h.l.pos, h.l.arr, ?_, h.l.bv, ?_⟩, ?_, ?_⟩
   . have hb : bkOK x.W v.bits v.num := h.l.bk
     have := bk_less hb hn
     have e : x.W / 2 ^ n = (x.adv { v with bits := v.bits / 2 ^ n, num := v.num - n } n).W := by
       unfold RS.W
       rw [Nat.div_div_eq_div_mul, <- Nat.pow_add]; rfl
     rw [e] at this
     exact this
   . show (x.P + n + (v.num - n)) % 8 = 0
     omega
   . show x.P + n + (v.num - n) <= 8 * x.bs.length
     omega
   . show v.off <= (x.P + n + 7) / 8
     omega
   . exact vw_at pk (show (x.P + v.num) / 8 = (x.P + n + (v.num - n)) / 8 by omega)
   . show ((x.P + n + (v.num - n)) / 8) + v.pkn <= v.pos + v.bn \/ (v.pkn = 0 /\ (x.P + n + (v.num - n)) / 8 <= (x.P + n + 7) / 8)
     omega
   . show v.dis = ((x.P + n : Nat) : Int) - 8 * v.off - ((v.fed : Int) - ((v.num - n : Nat) : Int))
     omega
   . show v.num - n <= v.fed /\ v.fed <= 64
     omega
 all := by have en : x.P + v.num <= 8 * x.bs.length := h.l.end_; omega
theorem mask {b n : Nat} (hb : b < 2 ^ 64) (hn : n <= 56) : bitI BinOp.and IntKind.u64 (b : Int) (IntKind.wrap IntKind.u64 (shlI IntKind.u64 (1 : Int) (n : Int) - (1 : Int))) = ((b % 2 ^ n : Nat) : Int) := by
 have h1 : (2 : Nat) ^ n <= 2 ^ 56 := Nat.pow_le_pow_right (by decide) hn
 have h0 : 0 < (2 : Nat) ^ n := Nat.pow_pos (by decide)
 have e1 : shlI IntKind.u64 (1 : Int) (n : Int) = ((2 ^ n : Nat) : Int) := by
   rw [show (1 : Int) = ((1 : Nat) : Int) from rfl, shlN rfl, show min n IntKind.u64.bits = n by simp only [IntKind.bits]; omega, Nat.one_mul, Nat.mod_eq_of_lt (by simp only [IntKind.bits]; omega)]
 have e2 : ((2 ^ n : Nat) : Int) - 1 = ((2 ^ n - 1 : Nat) : Int) := by omega
 rw [e1, e2, wrId rfl (by simp only [IntKind.bits]; omega), andN rfl hb (by simp only [IntKind.bits]; omega), Nat.and_two_pow_sub_one_eq_mod]
def errPan (e : Nat) : SV TT := .i 264 (.a [.c (.p 5 e (.lit 0))])
def errEnt (G : Gl) (e : Nat) : Ent TT := .B e 151 [.c (.v (errV G.U))]
/-! ReadBits -/
def c103 (G : Gl) (P : Nat) : Ctr TT where
 X := RS × Nat
 find a H := match a with
   | [.p 2 _ (.lit 0), .v (.int .u64 n)] => match getRS P H with
     | some x => some (x, n.toNat)
     | none => none
   | _ => none
 phi x := rsOK x.1 /\ x.2 <= 56
 args x := [.p 2 x.1.rb (.lit 0), iv .u64 x.2]
 H x := x.1.H
 outs := [{ Y := fun _ => RV, psi := fun x y => took x.1 x.2 y, res := fun x _ => iv .u64 (x.1.W % 2 ^ x.2), H := fun x y => (x.1.put y).H }]
 pans := [{ Y := fun _ => RV × Nat, psi := fun x y => lacks x.1 x.2 y.1, res := fun x y => errPan y.2, H := fun x y => (x.1.put y.1).H ++ [errEnt G y.2] }]
/-! ReadPads -/
def c107 (P : Nat) : Ctr TT where
 X := RS
 find a H := match a with
   | [.p 2 _ (.lit 0)] => getRS P H
   | _ => none
 phi x := rsOK x
 args x := [.p 2 x.rb (.lit 0)]
 H x := x.H
 outs := [{ Y := fun _ => RV, psi := fun x y => took x ((8 * x.bs.length - x.P) % 8) y, res := fun x _ => iv .u64 (x.W % 2 ^ ((8 * x.bs.length - x.P) % 8)), H := fun x y => (x.put y).H }]
/-! BitsRead -/
def c109 (P : Nat) : Ctr TT where
 X := RS
 find a H := match a with
   | [.p 2 _ (.lit 0)] => getRS P H
   | _ => none
 phi x := rsW x
 args x := [.p 2 x.rb (.lit 0)]
 H x := x.H
 outs := [{ Y := fun _ => Unit, psi := fun x y => True, res := fun x _ => iv .i64 x.P, H := fun x y => x.H }]
noncomputable def b103 (G : Gl) : Nat -> Option (PT TT)
 | 143 => some (exPT fun P => loc [none, none] (c143 G P).pt)
 | _ => none
end Pc
/-
 The contract of ReadSymbol.
-/
set_option linter.unusedVariables false
set_option maxRecDepth 100000
open Go Go.Vg Go.Proofs
namespace Pc
theorem rev_mono {a b : Nat} (h : ∀ k, bt a k <= bt b k) : ∀ n, rev a n <= rev b n
 | 0 => Nat.le_refl _
 | n + 1 => by
   have := rev_mono h n
   have := h n
   simp only [rev]; omega
theorem cl_mono {lens : List Nat} (hg : Good lens) {a b : Nat} (h : ∀ k, bt a k <= bt b k) : cl lens a <= cl lens b := by
 obtain ⟨i1, i2⟩ := cd_hit hg a
 obtain ⟨j1, j2⟩ := cd_hit hg b
 have hi := (hit_iff hg i1).1 i2
 have hj := (hit_iff hg j1).1 j2
 have hr := rev_mono h 20
 unfold cl
 rcases Nat.lt_or_ge (lens.getD (cd lens b) 0) (lens.getD (cd lens a) 0) with h1 | h1
 . exfalso
   have hs := hS_succ (l := lens) (n := lens.getD (cd lens b) 0) j1
   rw [if_pos rfl] at hs
   have hm := hS_mono lens (n := lens.getD (cd lens b) 0) (i := cd lens b + 1) (n' := lens.getD (cd lens a) 0) (i' := cd lens a) (.inl h1)
   omega
 . exact h1
structure DC where
 db : Nat
 cv : Value
 ch : List Nat
 lv : Value
 lk : List Sl
 cm : Nat
 lm : Nat
 cb : Nat
 mb : Nat
 ns : Nat
def segD (d : DC) : List (Seg TT) := [.c (.ro 43 d.cv (ints d.ch)), .c (.ro 42 d.lv d.lk), .c (iv .u32 d.cm), .c (iv .u32 d.lm), .c (iv .u32 d.cb), .c (iv .u32 d.mb), .c (iv .u32 d.ns)]
structure decOK (rel : Rel TT) (lens : List Nat) (d : DC) : Prop where
 good : Good lens
 cb : 1 <= d.cb /\ d.cb <= 9
 cm : d.cm = 2 ^ d.cb - 1
 len : d.ch.length = 2 ^ d.cb
 mb : 1 <= d.mb /\ ∀ v, d.mb <= cl lens v
 short : ∀ v, cl lens v <= d.cb -> d.ch[v % 2 ^ d.cb]? = some (cd lens v * 32 + cl lens v)
 long : ∀ v, d.cb < cl lens v -> ∃ k sl tb lb, d.ch[v % 2 ^ d.cb]? = some (k * 32 + (d.cb + 1)) /\ k < 64 /\ d.lk[k]? = some sl /\ isRo rel 43 sl.val (ints tb) /\ sl.n = tb.length /\ lb <= 11 /\ d.lm = 2 ^ lb - 1 /\ tb.length = 2 ^ lb /\ tb[v / 2 ^ d.cb % 2 ^ lb]? = some (cd lens v * 32 + cl lens v)
def getDC : Ent TT -> Option DC
 | .B db 201 [.c (.ro 43 cv ch), .c (.ro 42 lv lk), .c (.v (.int _ cm)), .c (.v (.int _ lm)), .c (.v (.int _ cb)), .c (.v (.int _ mb)), .c (.v (.int _ ns))] => some ⟨db, cv, nats ch, lv, lk, cm.toNat, lm.toNat, cb.toNat, mb.toNat, ns.toNat⟩
 | _ => none
def c105 (G : Gl) (P : Nat) (lens : List Nat) : Ctr TT where
 X := RS × DC
 find a H := match a, H with
   | [.p 2 _ (.lit 0), .p 5 _ (.lit 0)], [a0, a1, a2, a3, a4, a5] => match getRS P [a0, a1, a2, a3, a4], getDC a5 with
     | some x, some d => some (x, d)
     | _, _ => none
   | _, _ => none
 phi x := rsOK x.1 /\ decOK x.1.rel lens x.2
 args x := [.p 2 x.1.rb (.lit 0), .p 5 x.2.db (.lit 0)]
 H x := x.1.H ++ [.B x.2.db 201 (segD x.2)]
 outs := [{ Y := fun _ => RV, psi := fun x y => took x.1 (cl lens x.1.W) y, res := fun x _ => iv .u64 (cd lens x.1.W), H := fun x y => (x.1.put y).H ++ [.B x.2.db 201 (segD x.2)] }]
 pans := [{ Y := fun _ => RV × Nat, psi := fun x y => lacks x.1 (cl lens x.1.W) y.1, res := fun x y => .i 264 (.a [.c (.p 6 y.2 (.lit 0))]), H := fun x y => (x.1.put y.1).H ++ [.B x.2.db 201 (segD x.2), errEnt G y.2] }]
noncomputable def a105 (x : RS) (lens : List Nat) : Ann TT := fun r S => match r with
 | 4 => some {
   X := RV × Nat
   phi := fun y => rsOK (x.put y.1) /\ 1 <= y.2 /\ y.2 <= cl lens x.W
   fr := fun y => [(5, iv .u64 y.2)]
   H := fun y => (x.put y.1).H3
   mu := fun y => 21 - y.2 }
 | _ => none
end Pc
