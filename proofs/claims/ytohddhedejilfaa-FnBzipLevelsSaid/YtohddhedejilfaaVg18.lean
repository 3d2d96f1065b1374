/-
  The generator's frame rule: a contract over the memory that its arguments reach; what is lent; what is frozen.
-/
import Derived.Test.YtohddhedejilfaaVg17
set_option linter.unusedVariables false
namespace Go.Vg
variable {T : Tys}

mutual
/-- The entries' places renamed. -/
def SV.ren (f : Nat → Nat) : SV T → SV T
  | .un => .un
  | .v x => .v x
  | .p h b o => .p (f h) b o
  | .s h b e base lo len cap => .s (f h) b e base lo len cap
  | .o h e x n => .o (f h) e x n
  | .ov h e x lo hi => .ov (f h) e x lo hi
  | .q h e x i fld => .q (f h) e x i fld
  | .ro e x l => .ro e x l
  | .rq e x l i fld => .rq e x l i fld
  | .i t x => .i t (x.ren f)
  | .a xs => .a (Seg.renL f xs)
  | .t xs => .t (SV.renL f xs)
  | .f fn a b => .f fn (SV.renL f a) (SV.renL f b)
def SV.renL (f : Nat → Nat) : List (SV T) → List (SV T)
  | [] => []
  | x :: r => x.ren f :: SV.renL f r
def Seg.ren (f : Nat → Nat) : Seg T → Seg T
  | .c x => .c (x.ren f)
  | .r e n l => .r e n l
def Seg.renL (f : Nat → Nat) : List (Seg T) → List (Seg T)
  | [] => []
  | x :: r => x.ren f :: Seg.renL f r
end
mutual
def SV.refs : SV T → List Nat
  | .p h _ _ => [h]
  | .s h _ _ _ _ _ _ => [h]
  | .o h _ _ _ => [h]
  | .ov h _ _ _ _ => [h]
  | .q h _ _ _ _ => [h]
  | .i _ x => x.refs
  | .a xs => Seg.refsL xs
  | .t xs => SV.refsL xs
  | .f _ a b => SV.refsL a ++ SV.refsL b
  | _ => []
def SV.refsL : List (SV T) → List Nat
  | [] => []
  | x :: r => x.refs ++ SV.refsL r
def Seg.refs : Seg T → List Nat
  | .c x => x.refs
  | .r _ _ _ => []
def Seg.refsL : List (Seg T) → List Nat
  | [] => []
  | x :: r => x.refs ++ Seg.refsL r
end
mutual
/-- No row that is read alone. -/
def SV.noRo : SV T → Bool
  | .ro _ _ _ => false
  | .rq _ _ _ _ _ => false
  | .i _ x => x.noRo
  | .a xs => Seg.noRoL xs
  | .t xs => SV.noRoL xs
  | .f _ a b => SV.noRoL a && SV.noRoL b
  | _ => true
def SV.noRoL : List (SV T) → Bool
  | [] => true
  | x :: r => x.noRo && SV.noRoL r
def Seg.noRo : Seg T → Bool
  | .c x => x.noRo
  | .r _ _ _ => true
def Seg.noRoL : List (Seg T) → Bool
  | [] => true
  | x :: r => x.noRo && Seg.noRoL r
end
def Ent.ren (f : Nat → Nat) : Ent T → Ent T
  | .B b t xs => .B b t (Seg.renL f xs)
  | e => e
def Ent.refs : Ent T → List Nat
  | .B _ _ xs => Seg.refsL xs
  | _ => []
def Ent.noRo : Ent T → Bool
  | .B _ _ xs => Seg.noRoL xs
  | _ => true

def reach (H : List (Ent T)) : Nat → List Nat → List Nat → List Nat
  | 0, _, seen => seen
  | _ + 1, [], seen => seen
  | n + 1, h :: work, seen => if seen.contains h then reach H n work seen else if h < H.length then reach H n ((H.getD h .X).refs ++ work) (seen ++ [h]) else reach H n work seen
def posOf : List Nat → Nat → Nat
  | [], _ => 0
  | a :: r, h => if a = h then 0 else posOf r h + 1
def into (idx : List Nat) (h : Nat) : Nat := posOf idx h + 1
def back (idx : List Nat) (N i : Nat) : Nat := if i ≤ idx.length then idx.getD (i - 1) 0 else N + (i - idx.length - 1)
def setIdx (H : List (Ent T)) : List Nat → List (Ent T) → List (Ent T)
  | [], _ => H
  | g :: gs, [] => setIdx (H.set g .X) gs []
  | g :: gs, e :: es => setIdx (H.set g e) gs es
def merge (H : List (Ent T)) (idx : List Nat) (es : List (Ent T)) : List (Ent T) :=
  setIdx H idx ((es.take idx.length).map (·.ren (back idx H.length))) ++ (es.drop idx.length).map (·.ren (back idx H.length))

/-- Arguments that are lent: a row of one's own, or of a block, is read alone by the callee. -/
def borK (H : List (Ent T)) : List Bool → List (SV T) → (List (SV T) → List Nat → VCT) → VCT
  | [], r, k => k r []
  | _ :: _, [], k => k [] []
  | true :: bs, .o h e x n :: r, k => match H.getD h .X with
    | .O x' e' l => .fact (x = x' ∧ n = l.length) (borK H bs r fun a hs => k (.ro e' x l :: a) (h :: hs))
    | _ => .ff "lend: no row of its own"
  | true :: bs, .s h b e base lo len cap :: r, k => match H.getD h .X with
    | .B b' _ _ => .fact (b = b' ∧ len ≤ cap ∧ cap ≤ maxLen) (srcK { fr := Fr.nil, H := H } e (.s h b e base lo len cap) fun l => borK H bs r fun a hs => k (.ro e (SV.s (T := T) h b e base lo len cap).toV l :: a) (h :: hs))
    | _ => .ff "lend: no block"
  | _ :: bs, x :: r, k => borK H bs r fun a hs => k (x :: a) hs

def locOut (H : List (Ent T)) (idx hs : List Nat) (m : Nat → Option Obj) (K : SV T → List (Ent T) → VCT) (r : SV T) (Hl : List (Ent T)) : VCT :=
  match Hl with
  | .F m' :: es => if hs.isEmpty || (r.noRo && es.all Ent.noRo) then .fact (m' = m) (K (r.ren (back idx H.length)) (merge H idx es)) else .ff "a call hands on what was lent"
  | _ => .ff "the frame is lost"
/-- A contract over the memory that the arguments reach: entry 0 stands for all the rest. -/
def loc (bor : List Bool) (pt : PT T) : PT T := fun args H K Kp =>
  borK H bor args fun args' hs =>
    let idx := reach H 500 (SV.refsL args') []
    if hs.all fun h => !idx.contains h then
      .all (Nat → Option Obj) fun m => pt (SV.renL (into idx) args') (.F m :: idx.map fun h => (H.getD h .X).ren (into idx)) (locOut H idx hs m K) (locOut H idx hs m Kp)
    else .ff "lent and handed over"

/-! ### Renaming changes nothing -/
mutual
theorem SV.ren_toV (f : Nat → Nat) : ∀ x : SV T, (x.ren f).toV = x.toV
  | .un | .v _ | .p _ _ _ | .s _ _ _ _ _ _ _ | .o _ _ _ _ | .ov _ _ _ _ _ | .q _ _ _ _ _ | .ro _ _ _ | .rq _ _ _ _ _ => rfl
  | .i t x => by simp only [SV.ren, SV.toV, SV.ren_toV f x]
  | .a xs => by simp only [SV.ren, SV.toV, Seg.renL_cells f xs]
  | .t xs => by simp only [SV.ren, SV.toV, SV.renL_toV f xs]
  | .f fn a b => by simp only [SV.ren, SV.toV, SV.renL_toV f a, SV.renL_toV f b]
theorem SV.renL_toV (f : Nat → Nat) : ∀ x : List (SV T), SV.toVL (SV.renL f x) = SV.toVL x
  | [] => rfl
  | x :: r => by simp only [SV.renL, SV.toVL, SV.ren_toV f x, SV.renL_toV f r]
theorem Seg.ren_cells (f : Nat → Nat) : ∀ x : Seg T, (x.ren f).cells = x.cells
  | .c x => by simp only [Seg.ren, Seg.cells, SV.ren_toV f x]
  | .r _ _ _ => rfl
theorem Seg.renL_cells (f : Nat → Nat) : ∀ x : List (Seg T), Seg.cellsL (Seg.renL f x) = Seg.cellsL x
  | [] => rfl
  | x :: r => by simp only [Seg.renL, Seg.cellsL, Seg.ren_cells f x, Seg.renL_cells f r]
end
mutual
theorem SV.ren_valid (f : Nat → Nat) (I : Nat → Prop) (w : World) : ∀ x : SV T, x.valid I w → (x.ren f).valid I w
  | .un, h | .v _, h | .p _ _ _, h | .s _ _ _ _ _ _ _, h | .o _ _ _ _, h | .ov _ _ _ _ _, h | .q _ _ _ _ _, h | .ro _ _ _, h | .rq _ _ _ _ _, h => h
  | .i t x, h => SV.ren_valid f I w x h
  | .a xs, h => Seg.renL_valid f I w xs h
  | .t xs, h => SV.renL_valid f I w xs h
  | .f fn a b, h => ⟨SV.renL_valid f I w a h.1, SV.renL_valid f I w b h.2⟩
theorem SV.renL_valid (f : Nat → Nat) (I : Nat → Prop) (w : World) : ∀ x : List (SV T), SV.validL I w x → SV.validL I w (SV.renL f x)
  | [], _ => trivial
  | x :: r, h => ⟨SV.ren_valid f I w x h.1, SV.renL_valid f I w r h.2⟩
theorem Seg.ren_valid (f : Nat → Nat) (I : Nat → Prop) (w : World) : ∀ x : Seg T, x.valid I w → (x.ren f).valid I w
  | .c x, h => ⟨SV.ren_valid f I w x h.1, by rw [SV.ren_toV f x]; exact h.2⟩
  | .r _ _ _, h => h
theorem Seg.renL_valid (f : Nat → Nat) (I : Nat → Prop) (w : World) : ∀ x : List (Seg T), Seg.validL I w x → Seg.validL I w (Seg.renL f x)
  | [], _ => trivial
  | x :: r, h => ⟨Seg.ren_valid f I w x h.1, Seg.renL_valid f I w r h.2⟩
end
mutual
theorem SV.noRo_valid {I I' : Nat → Prop} {w w' : World} : ∀ x : SV T, x.noRo = true → x.valid I w → x.valid I' w'
  | .un, _, h | .v _, _, h | .p _ _ _, _, h | .s _ _ _ _ _ _ _, _, h | .o _ _ _ _, _, h | .ov _ _ _ _ _, _, h | .q _ _ _ _ _, _, h => h
  | .ro _ _ _, h, _ => by simp [SV.noRo] at h
  | .rq _ _ _ _ _, h, _ => by simp [SV.noRo] at h
  | .i t x, n, h => SV.noRo_valid x n h
  | .a xs, n, h => Seg.noRoL_valid xs n h
  | .t xs, n, h => SV.noRoL_valid xs n h
  | .f fn a b, n, h => by
    simp only [SV.noRo, Bool.and_eq_true] at n
    exact ⟨SV.noRoL_valid a n.1 h.1, SV.noRoL_valid b n.2 h.2⟩
theorem SV.noRoL_valid {I I' : Nat → Prop} {w w' : World} : ∀ x : List (SV T), SV.noRoL x = true → SV.validL I w x → SV.validL I' w' x
  | [], _, _ => trivial
  | x :: r, n, h => by
    simp only [SV.noRoL, Bool.and_eq_true] at n
    exact ⟨SV.noRo_valid x n.1 h.1, SV.noRoL_valid r n.2 h.2⟩
theorem Seg.noRo_valid {I I' : Nat → Prop} {w w' : World} : ∀ x : Seg T, x.noRo = true → x.valid I w → x.valid I' w'
  | .c x, n, h => ⟨SV.noRo_valid x n h.1, h.2⟩
  | .r _ _ _, _, h => h
theorem Seg.noRoL_valid {I I' : Nat → Prop} {w w' : World} : ∀ x : List (Seg T), Seg.noRoL x = true → Seg.validL I w x → Seg.validL I' w' x
  | [], _, _ => trivial
  | x :: r, n, h => by
    simp only [Seg.noRoL, Bool.and_eq_true] at n
    exact ⟨Seg.noRo_valid x n.1 h.1, Seg.noRoL_valid r n.2 h.2⟩
end
theorem Ent.ren_ok {I : Nat → Prop} {w : World} (f : Nat → Nat) (e : Ent T) (h : e.ok I w) : (e.ren f).ok I w := by
  cases e with
  | B b t xs => exact ⟨by rw [Seg.renL_cells]; exact h.1, Seg.renL_valid f I w xs h.2⟩
  | _ => exact h
theorem Ent.ren_has (f : Nat → Nat) (e : Ent T) (k : Nat) : (e.ren f).has k ↔ e.has k := by cases e <;> exact Iff.rfl
theorem Ent.noRo_ok {I I' : Nat → Prop} {w : World} (e : Ent T) (hn : e.noRo = true) (h : e.ok I w) : e.ok I' w := by
  cases e with
  | B b t xs => exact ⟨h.1, Seg.noRoL_valid xs hn h.2⟩
  | _ => exact h

theorem reach_ok (H : List (Ent T)) : ∀ (n : Nat) (work seen : List Nat), seen.Nodup → (∀ h ∈ seen, h < H.length) → (reach H n work seen).Nodup ∧ ∀ h ∈ reach H n work seen, h < H.length := by
  intro n
  induction n with
  | zero => intro work seen h1 h2; exact ⟨h1, h2⟩
  | succ n ih =>
    intro work seen h1 h2
    cases work with
    | nil => exact ⟨h1, h2⟩
    | cons h work =>
      simp only [reach]
      split
      · exact ih _ _ h1 h2
      · rename_i hs
        split
        · rename_i hl
          refine ih _ _ ?_ ?_
          · rw [List.nodup_append]
            refine ⟨h1, by simp, fun a ha b hb => ?_⟩
            simp only [List.mem_singleton] at hb
            subst hb
            intro h0; subst h0
            exact hs (by simpa using ha)
          · intro x hx
            simp only [List.mem_append, List.mem_singleton] at hx
            rcases hx with hx | rfl
            · exact h2 x hx
            · exact hl
        · exact ih _ _ h1 h2

theorem setIdx_len : ∀ (idx : List Nat) (es H : List (Ent T)), (setIdx H idx es).length = H.length
  | [], _, H => rfl
  | g :: gs, [], H => by rw [setIdx, setIdx_len gs]; simp
  | g :: gs, e :: es, H => by rw [setIdx, setIdx_len gs]; simp
theorem setIdx_get : ∀ (idx : List Nat) (es H : List (Ent T)) (g : Nat) (e : Ent T), idx.Nodup → (setIdx H idx es)[g]? = some e → (g ∉ idx ∧ H[g]? = some e) ∨ (e = .X) ∨ ∃ i : Nat, idx[i]? = some g ∧ es[i]? = some e := by
  intro idx
  induction idx with
  | nil => intro es H g e _ h; exact .inl ⟨by simp, h⟩
  | cons a r ih =>
    intro es H g e hn h
    rw [List.nodup_cons] at hn
    have fin : ∀ (e0 : Ent T) (es' : List (Ent T)), (setIdx (H.set a e0) r es')[g]? = some e → (g ∉ a :: r ∧ H[g]? = some e) ∨ (e = .X) ∨ (g = a ∧ e = e0) ∨ ∃ i : Nat, r[i]? = some g ∧ es'[i]? = some e := by
      intro e0 es' h
      rcases ih es' _ g e hn.2 h with ⟨h1, h2⟩ | h2 | h2
      · rw [List.getElem?_set] at h2
        split at h2
        · rename_i ha
          subst ha
          split at h2
          · simp only [Option.some.injEq] at h2
            exact .inr (.inr (.inl ⟨rfl, h2.symm⟩))
          · cases h2
        · rename_i ha
          exact .inl ⟨by simp only [List.mem_cons, not_or]; exact ⟨fun h => ha h.symm, h1⟩, h2⟩
      · exact .inr (.inl h2)
      · exact .inr (.inr (.inr h2))
    cases es with
    | nil =>
      rcases fin .X [] h with h1 | h1 | ⟨_, h1⟩ | ⟨i, h1, h2⟩
      · exact .inl h1
      · exact .inr (.inl h1)
      · exact .inr (.inl h1)
      · simp at h2
    | cons e0 es =>
      rcases fin e0 es h with h1 | h1 | ⟨rfl, rfl⟩ | ⟨i, h1, h2⟩
      · exact .inl h1
      · exact .inr (.inl h1)
      · exact .inr (.inr ⟨0, rfl, rfl⟩)
      · exact .inr (.inr ⟨i + 1, h1, h2⟩)

/-- Where an entry of the merged memory comes from. -/
theorem merge_get (H : List (Ent T)) (idx : List Nat) (es : List (Ent T)) (hn : idx.Nodup) (hlt : ∀ h ∈ idx, h < H.length) (g : Nat) (e : Ent T) (h : (merge H idx es)[g]? = some e) :
    (g ∉ idx ∧ H[g]? = some e) ∨ e = .X ∨ ∃ (i : Nat) (e0 : Ent T), es[i]? = some e0 ∧ e = e0.ren (back idx H.length) ∧ ((i < idx.length ∧ idx[i]? = some g) ∨ (idx.length ≤ i ∧ g = H.length + (i - idx.length))) := by
  unfold merge at h
  rw [List.getElem?_append, setIdx_len] at h
  split at h
  · rename_i hg
    rcases setIdx_get _ _ _ _ _ hn h with h1 | h1 | ⟨i, h1, h2⟩
    · exact .inl h1
    · exact .inr (.inl h1)
    · rw [List.getElem?_map, Option.map_eq_some_iff] at h2
      obtain ⟨e0, h2, rfl⟩ := h2
      rw [List.getElem?_take] at h2
      split at h2
      · rename_i hi
        exact .inr (.inr ⟨i, e0, h2, rfl, .inl ⟨hi, h1⟩⟩)
      · cases h2
  · rename_i hg
    rw [List.getElem?_map, Option.map_eq_some_iff] at h
    obtain ⟨e0, h2, rfl⟩ := h
    rw [List.getElem?_drop] at h2
    exact .inr (.inr ⟨idx.length + (g - H.length), e0, h2, rfl, .inr ⟨by omega, by omega⟩⟩)

theorem getD_ent (H : List (Ent T)) (h : Nat) (hl : h < H.length) : H[h]? = some (H.getD h .X) := by
  rw [List.getD_eq_getElem?_getD, List.getElem?_eq_getElem hl]; rfl

theorem bor_ok {C : Ctx T} {H : List (Ent T)} {w : World} (hH : HOK C H w) : ∀ (bor : List Bool) (args : List (SV T)) (k : List (SV T) → List Nat → VCT), (borK H bor args k).den → SV.validL (Owns H) w args →
    ∃ args' hs, (k args' hs).den ∧ SV.toVL args' = SV.toVL args ∧ (∀ I : Nat → Prop, (∀ j, I j → Owns H j ∧ ∀ h ∈ hs, ¬ (H.getD h .X).has j) → SV.validL I w args') := by
  intro bor
  have still : ∀ {x : SV T} {I : Nat → Prop}, (∀ j, I j → Owns H j) → x.valid (Owns H) w → x.valid I w := by
    intro x I hI hx
    exact SV.valid_step (w := w) ⟨rfl, rfl, rfl, Nat.le_refl _, fun _ _ _ => rfl, fun j hj => .inl (hI j hj)⟩ x hx
  have stillL : ∀ {x : List (SV T)} {I : Nat → Prop}, (∀ j, I j → Owns H j) → SV.validL (Owns H) w x → SV.validL I w x := by
    intro x I hI hx
    exact SV.validL_step (w := w) ⟨rfl, rfl, rfl, Nat.le_refl _, fun _ _ _ => rfl, fun j hj => .inl (hI j hj)⟩ x hx
  induction bor with
  | nil => intro args k h hv; exact ⟨args, [], h, rfl, fun I hI => stillL (fun j hj => (hI j hj).1) hv⟩
  | cons b bs ih =>
    intro args k h hv
    cases args with
    | nil => exact ⟨[], [], by cases b <;> exact h, rfl, fun _ _ => trivial⟩
    | cons x r =>
      have plain : (borK H bs r fun a hs => k (x :: a) hs).den → ∃ args' hs, (k args' hs).den ∧ SV.toVL args' = SV.toVL (x :: r) ∧ (∀ I : Nat → Prop, (∀ j, I j → Owns H j ∧ ∀ h ∈ hs, ¬ (H.getD h .X).has j) → SV.validL I w args') := by
        intro h
        obtain ⟨a, hs, h1, h2, h3⟩ := ih r _ h hv.2
        exact ⟨x :: a, hs, h1, by simp only [SV.toVL, h2], fun I hI => ⟨still (fun j hj => (hI j hj).1) hv.1, h3 I hI⟩⟩
      unfold borK at h
      split at h
      · rename_i h0; cases h0
      · rename_i h0; cases h0
      · rename_i k' bs' hh e v n r' hb hx
        cases hb; cases hx
        split at h
        · rename_i x' e' l he
          obtain ⟨⟨rfl, rfl⟩, h⟩ := h
          obtain ⟨a, hs, h1, h2, h3⟩ := ih r _ h hv.2
          refine ⟨_ :: a, hh :: hs, h1, by simp only [SV.toVL, h2, SV.toV], fun I hI => ⟨?_, h3 I (fun j hj => ⟨(hI j hj).1, fun g hg => (hI j hj).2 g (by simp [hg])⟩)⟩⟩
          have hent : (H.getD hh .X).ok (Owns H) w := ent_ok (S := { fr := Fr.nil, H := H }) hH hh
          rw [he] at hent
          have hn := ent_get (S := { fr := Fr.nil, H := H }) (h := hh) he (by intro h; cases h)
          rcases hent.2 with ⟨hv0, hl⟩ | ⟨g, cap, cur, hv0, _, _, hnc, hm, _⟩
          · exact ⟨none, 0, by rw [hv0, hl], by omega, by decide, fun h0 => by omega⟩
          · refine ⟨_, cap, hv0, hnc, hm, fun h0 => ?_⟩
            obtain ⟨g', cap', hv', _, _, hc⟩ := own_cells hent h0
            rw [hv0] at hv'
            cases hv'
            refine ⟨_, rfl, fun hI' => (hI g hI').2 hh (by simp) ?_, ?_, hc⟩
            · rw [he, hv0]; rfl
            · exact hH.lt g ⟨hh, _, hn, by rw [hv0]; rfl⟩
        · exact h.elim
      · rename_i k' bs' hh b' e base lo len cap r' hb hx
        cases hb; cases hx
        split at h
        · rename_i b2 ty segs he
          obtain ⟨⟨rfl, hlc, hm⟩, h⟩ := h
          obtain ⟨l, h, hsrc⟩ := srcK_ok (S := { fr := Fr.nil, H := H }) (x := .s hh b' e base lo len cap) hH hv.1 h
          obtain ⟨a, hs, h1, h2, h3⟩ := ih r _ h hv.2
          refine ⟨_ :: a, hh :: hs, h1, by simp only [SV.toVL, h2, SV.toV], fun I hI => ⟨?_, h3 I (fun j hj => ⟨(hI j hj).1, fun g hg => (hI j hj).2 g (by simp [hg])⟩)⟩⟩
          have hn := ent_get (S := { fr := Fr.nil, H := H }) (h := hh) he (by intro h; cases h)
          obtain ⟨A, c, hv0, h4, h5⟩ := hsrc
          simp only [SV.toV, Value.slice.injEq] at hv0
          obtain ⟨rfl, hlen, rfl⟩ := hv0
          refine ⟨_, cap, by simp only [SV.toV]; rw [hlen], by rw [← hlen]; exact hlc, hm, fun h0 => ?_⟩
          obtain ⟨ad, had, hc⟩ := h5 h0
          cases had
          exact ⟨_, rfl, fun hI' => (hI b' hI').2 hh (by simp) (by rw [he]; rfl), hH.lt b' ⟨hh, _, hn, rfl⟩, hc⟩
        · exact h.elim
      · rename_i hb hx
        cases hb; cases hx
        exact plain h
end Go.Vg
