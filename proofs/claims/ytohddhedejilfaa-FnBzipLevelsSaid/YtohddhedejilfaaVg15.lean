/-
  The generator's soundness, part 12: regions, code, functions.
-/
import Derived.Test.YtohddhedejilfaaVg14
set_option linter.unusedVariables false
namespace Go.Vg
variable {T : Tys}

structure Lead (C : Ctx T) (ws : List Tmp) (S S' : St T) (a a' : Act) (w w' : World) : Prop where
  fr : FrOK S' a' (Owns S'.H) w'
  H : HOK C S'.H w'
  stp : Stp (Owns S.H) (Owns S'.H) w w'
  defers : a'.defers = a.defers
  same : ∀ i, i ∉ ws → a'.tmps[i]? = a.tmps[i]?
  len : S'.fr.length = S.fr.length

theorem Lead.trans {C : Ctx T} {ws ws' : List Tmp} {S S' S'' : St T} {a a' a'' : Act} {w w' w'' : World} (h : Lead C ws S S' a a' w w') (k : Lead C ws' S' S'' a' a'' w' w'') : Lead C (ws ++ ws') S S'' a a'' w w'' :=
  ⟨k.fr, k.H, h.stp.trans k.stp, k.defers.trans h.defers, fun i hi => (k.same i (fun h => hi (by simp [h]))).trans (h.same i (fun h => hi (by simp [h]))), k.len.trans h.len⟩
theorem Lead.mono {C : Ctx T} {ws ws' : List Tmp} {S S' : St T} {a a' : Act} {w w' : World} (h : Lead C ws S S' a a' w w') (hw : ∀ i ∈ ws, i ∈ ws') : Lead C ws' S S' a a' w w' :=
  ⟨h.fr, h.H, h.stp, h.defers, fun i hi => h.same i (fun h' => hi (hw i h')), h.len⟩
/-- Where only the frame's words have changed. -/
theorem Lead.refl {C : Ctx T} {S S' : St T} {a : Act} {w : World} (ws : List Tmp) (hf : FrOK S' a (Owns S'.H) w) (hH : HOK C S.H w) (he : S'.H = S.H) (hl : S'.fr.length = S.fr.length) : Lead C ws S S' a a w w :=
  ⟨hf, by rw [he]; exact hH, by rw [he]; exact Stp.refl _ _, rfl, fun _ _ => rfl, hl⟩

theorem frOK_bool {S : St T} {a : Act} {I : Nat → Prop} {w : World} (h : FrOK S a I w) {d : Nat} {t : Bool} (hd : S.get d = some (.v (.bool t))) : FrOK (S.set (some d) (.v (.bool t))) a I w := by
  refine ⟨by simp [St.set, Fr.set, h.size], fun i x hx => ?_⟩
  rcases St.get_set hx with ⟨rfl, rfl, _⟩ | ⟨_, hx⟩
  · exact h.get _ _ hd
  · exact h.get i x hx

theorem set_len (S : St T) (d : Option Tmp) (x : SV T) : (S.set d x).fr.length = S.fr.length := by cases d <;> simp [St.set, Fr.set]
theorem set_H (S : St T) (d : Option Tmp) (x : SV T) : (S.set d x).H = S.H := by cases d <;> rfl

theorem guardx_ok {C : Ctx T} {ops : List Oper} {o : Oper} {S : St T} {run skip : St T → VCT} {a : Act} {w : World} (hS : FrOK S a (Owns S.H) w) (hH : HOK C S.H w) (h : (guardx ops o S run skip).den) :
    (∃ S1, Region.wanted o (yielded ops.toArray a.tmps) = true ∧ (run S1).den ∧ Lead C [] S S1 a a w w) ∨
    (∃ S1, Region.wanted o (yielded ops.toArray a.tmps) = false ∧ (skip S1).den ∧ Lead C o.dst.toList S S1 a (a.put o.dst undef) w w) := by
  have skp : ∀ (S1 : St T), FrOK S1 a (Owns S1.H) w → S1.H = S.H → S1.fr.length = S.fr.length → Lead C o.dst.toList S (S1.set o.dst .un) a (a.put o.dst undef) w w := by
    intro S1 h1 h2 h3
    refine ⟨by rw [set_H]; exact frOK_set h1 o.dst (x := .un) trivial, by rw [set_H, h2]; exact hH, by rw [set_H, h2]; exact Stp.refl _ _, put_defers _ _ _, fun i hi => put_same _ _ _ i (fun h0 => hi (by rw [h0]; simp)), by rw [set_len, h3]⟩
  unfold guardx at h
  split at h
  · rename_i hg
    exact .inl ⟨S, by simp [Region.wanted, hg], h, Lead.refl _ hS hH rfl rfl⟩
  · rename_i j want hg
    split at h
    · rename_i d hd
      have hy : ∀ v, a.tmps[d]? = some v → yielded ops.toArray a.tmps j = (match (some v : Option Value) with | some (.bool b) => some b | _ => none) := by
        intro v hv
        unfold yielded
        have : ((ops.toArray[j]?).bind (·.dst)).bind (a.tmps[·]?) = some v := by simp [hd, hv]
        rw [this]
        cases v <;> rfl
      split at h
      · rename_i t ht
        have h1 := (hS.get d _ ht).1
        have h2 := hy _ h1
        simp only [SV.toV] at h2
        simp only at h
        have hb := frOK_bool hS ht
        split at h
        · rename_i hw
          obtain ⟨g1, g2⟩ := br_split h
          cases t
          · exact .inr ⟨_, by simp [Region.wanted, hg, h2, hw], g2 rfl, skp _ hb rfl (set_len _ _ _)⟩
          · exact .inl ⟨_, by simp [Region.wanted, hg, h2, hw], g1 rfl, Lead.refl _ hb hH rfl (set_len _ _ _)⟩
        · rename_i hw
          have hw : want = false := by simpa using hw
          obtain ⟨g1, g2⟩ := br_split h
          cases t
          · exact .inl ⟨_, by simp [Region.wanted, hg, h2, hw], g2 rfl, Lead.refl _ hb hH rfl (set_len _ _ _)⟩
          · exact .inr ⟨_, by simp [Region.wanted, hg, h2, hw], g1 rfl, skp _ hb rfl (set_len _ _ _)⟩
      · rename_i ht
        have h1 := (hS.get d _ ht).1
        have h2 := hy _ h1
        simp only [SV.toV, undef] at h2
        exact .inr ⟨_, by simp [Region.wanted, hg, h2], h, skp S hS rfl rfl⟩
      · exact h.elim
    · exact h.elim

theorem leads_lead {C : Ctx T} {S S' : St T} {o : Oper} {a a' : Act} {w w' : World} (h : Leads C S S' o a a' w w') : Lead C o.dst.toList S S' a a' w w' :=
  ⟨h.fr, h.H, h.stp, h.defers, fun i hi => h.same i (fun h0 => hi (by rw [h0]; simp)), h.len⟩

def dsts (l : List Oper) : List Tmp := l.filterMap (·.dst)
theorem dsts_cons (o : Oper) (r : List Oper) : dsts (o :: r) = o.dst.toList ++ dsts r := by
  unfold dsts
  cases h : o.dst <;> simp [h]

theorem opsx_ok {C : Ctx T} (hz : ZOK C) {sp : Nat → Option (PT T)} (hsp : ∀ f pt, sp f = some pt → SpecOK C f pt) {ops : List Oper} {K : St T → VCT} {pan : SV T → St T → VCT} : ∀ (l : List Oper) (S : St T) (a : Act) (w : World),
    FrOK S a (Owns S.H) w → HOK C S.H w → (opsx C sp ops l S K pan).den → ∀ Q : Exit → Act → World → Prop,
    (∀ S' a' w', (K S').den → Lead C (dsts l) S S' a a' w w' → Q .normal a' w') →
    (∀ x S' a' w', (pan x S').den → x.valid (Owns S'.H) w' → Lead C (dsts l) S S' a a' w w' → Q (.panic [{ v := x.toV, recovered := false }]) a' w') → wpList C.P ops.toArray Q l a w := by
  intro l
  induction l with
  | nil =>
    intro S a w hS hH h Q h1 _
    exact h1 S a w h (Lead.refl _ hS hH rfl rfl)
  | cons o r ih =>
    intro S a w hS hH h Q h1 h2
    simp only [opsx] at h
    rw [dsts_cons] at h1 h2
    unfold wpList
    rcases guardx_ok hS hH h with ⟨S1, hw, h, hl⟩ | ⟨S1, hw, h, hl⟩
    · rw [if_pos hw]
      rw [forceF_eq] at h
      left
      refine opx_ok hz hsp hl.fr hl.H h _ _ (fun S' a' w' hn hld => ?_) (fun x S' w' hp hx hf hH' hst => ?_)
      · rw [forceF_eq, forceM_eq] at hn
        have hl' := hl.trans (leads_lead hld)
        refine ih S' a' w' hld.fr hld.H hn Q (fun S2 a2 w2 hk hl2 => h1 S2 a2 w2 hk ?_) (fun x S2 a2 w2 hp hx hl2 => h2 x S2 a2 w2 hp hx ?_)
        · exact hl'.trans hl2
        · exact hl'.trans hl2
      · exact h2 x S' a w' hp hx ⟨hf, hH', hl.stp.trans hst, rfl, fun _ _ => rfl, by rw [← hf.size, hS.size]⟩
    · rw [if_neg (by rw [hw]; simp)]
      rw [forceF_eq] at h
      refine ih S1 _ w hl.fr hl.H h Q (fun S2 a2 w2 hk hl2 => h1 S2 a2 w2 hk (hl.trans hl2)) (fun x S2 a2 w2 hp hx hl2 => h2 x S2 a2 w2 hp hx (hl.trans hl2))

theorem stillx_ok {C : Ctx T} (hz : ZOK C) {ops : List Oper} {K : St T → VCT} : ∀ (l : List Oper) (S : St T) (a : Act) (w : World), FrOK S a (Owns S.H) w → HOK C S.H w → (stillx C ops l S K).den → ∀ Q : Act → Prop,
    (∀ S' a', (K S').den → Lead C (dsts l) S S' a a' w w → Q a') → wpStill C.P ops.toArray w Q l a := by
  intro l
  induction l with
  | nil =>
    intro S a w hS hH h Q h1
    exact h1 S a h (Lead.refl _ hS hH rfl rfl)
  | cons o r ih =>
    intro S a w hS hH h Q h1
    simp only [stillx] at h
    rw [dsts_cons] at h1
    unfold wpStill
    rcases guardx_ok hS hH h with ⟨S1, hw, h, hl⟩ | ⟨S1, hw, h, hl⟩
    · rw [if_pos hw]
      rw [forceF_eq] at h
      obtain ⟨y, g1, g2, g3⟩ := stx_ok hz hl.fr hl.H h
      simp only [forceF_eq] at g1
      unfold Oper.still
      rw [g3, Oper.stillUpon_value]
      have hld := leads_put (o := o) hl.fr (S1 := S1) rfl hl.H (Stp.refl _ _) g2
      refine ih _ _ w hld.fr hld.H g1 Q (fun S2 a2 hk hl2 => h1 S2 a2 hk ?_)
      exact (hl.trans (leads_lead hld)).trans hl2
    · rw [if_neg (by rw [hw]; simp)]
      rw [forceF_eq] at h
      exact ih S1 _ w hl.fr hl.H h Q (fun S2 a2 hk hl2 => h1 S2 a2 hk (hl.trans hl2))

theorem lead_drew {C : Ctx T} {S : St T} {a : Act} {w : World} (hS : FrOK S a (Owns S.H) w) (hH : HOK C S.H w) (n : Nat) : Lead C [] S S a a w { w with drawn := n } := by
  have s : Stp (Owns S.H) (Owns S.H) w { w with drawn := n } := ⟨rfl, rfl, rfl, Nat.le_refl _, fun _ _ _ => rfl, fun _ h => .inl h⟩
  refine ⟨hS.step s, ⟨fun i e he => Ent.ok_step s e (hH.ents i e he) (fun _ _ => rfl), hH.apart, hH.lt, fun g v hg => hH.glob g v hg⟩, s, rfl, fun _ _ => rfl, rfl⟩

theorem dsts_split (l : List Oper) (n : Nat) : dsts (l.take n) ++ dsts (l.drop n) = dsts l := by
  unfold dsts
  rw [← List.filterMap_append, List.take_append_drop]

theorem regx_ok {C : Ctx T} (hz : ZOK C) {sp : Nat → Option (PT T)} (hsp : ∀ f pt, sp f = some pt → SpecOK C f pt) (hm : C.P.follows .mixedOrders = true) {id : Nat} {ops : List Oper} {draw : Bool} {S : St T} {K : St T → VCT} {pan : SV T → St T → VCT} {a : Act} {w : World}
    (hlex : draw = true → lexR ops = true) (hS : FrOK S a (Owns S.H) w) (hH : HOK C S.H w) (h : (regx C sp ops draw S K pan).den) (Q : Exit → Act → World → Prop)
    (h1 : ∀ S' a' w', (K S').den → Lead C (dsts ops) S S' a a' w w' → Q .normal a' w')
    (h2 : ∀ x S' a' w', (pan x S').den → x.valid (Owns S'.H) w' → Lead C (dsts ops) S S' a a' w w' → Q (.panic [{ v := x.toV, recovered := false }]) a' w') : (Code.region id ops.toArray draw).wp C.P Q a w := by
  unfold regx at h
  split at h
  · rename_i hd
    have hd : draw = true := hd
    subst hd
    have hlex := hlex rfl
    unfold lexR at hlex
    have hdr := lead_drew hS hH (w.drawn + 1)
    simp only at h
    split at h
    · rename_i hn
      rw [if_pos hn] at hlex
      refine wp_region_still_lit hm hlex ?_
      refine stillx_ok hz ops S a _ hdr.fr hdr.H h _ (fun S' a' hk hl => h1 S' a' _ hk (hdr.trans hl))
    · rename_i hn
      rw [if_neg hn] at hlex
      · have hB := hlex
        refine wp_region_still_tail (stillLen ops) hm hB ?_
        refine stillx_ok hz (ops.take (stillLen ops)) S a _ hdr.fr hdr.H h _ (fun S' a' hk hl => ?_)
        refine opsx_ok hz hsp (ops.drop (stillLen ops)) S' a' _ hl.fr hl.H hk Q (fun S2 a2 w2 hk2 hl2 => h1 S2 a2 w2 hk2 ?_) (fun x S2 a2 w2 hp hx hl2 => h2 x S2 a2 w2 hp hx ?_)
        · rw [← dsts_split ops (stillLen ops)]; exact hdr.trans (hl.trans hl2)
        · rw [← dsts_split ops (stillLen ops)]; exact hdr.trans (hl.trans hl2)
  · rename_i hd
    have hd : draw = false := by simpa using hd
    subst hd
    exact wp_region_lit (opsx_ok hz hsp ops S a w hS hH h Q h1 h2)
end Go.Vg
