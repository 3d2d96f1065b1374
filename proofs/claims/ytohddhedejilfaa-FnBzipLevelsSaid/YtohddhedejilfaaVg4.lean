/-
  The generator's soundness, part 1: symbolic memory against the model's memory.
-/
import Derived.Test.YtohddhedejilfaaVg3
import Derived.Laws.Cells
import Derived.Laws.OwnMore
set_option linter.unusedVariables false
namespace Go.Vg
variable {T : Tys}

/-! ### Cells of pieces -/
theorem cellsL_append (a b : List (Seg T)) : Seg.cellsL (a ++ b) = Seg.cellsL a ++ Seg.cellsL b := by
  induction a with
  | nil => simp [Seg.cellsL]
  | cons x r ih => simp [Seg.cellsL, ih]

/-- What a row that is read alone needs: its cells are there, and nobody of I's blocks holds them. -/
def roOK (I : Nat → Prop) (w : World) (e : TypeId) (x : Value) (l : List (T.El e)) : Prop :=
  ∃ A cap, x = .slice A l.length cap ∧ l.length ≤ cap ∧ cap ≤ maxLen ∧ (0 < l.length → ∃ ad, A = some ad ∧ ¬ I ad.block ∧ ad.block < w.heap.size ∧
    ∀ j u, (l.flatMap (T.enc e).enc)[j]? = some u → w.cell? (ad.add j) = some u)

mutual
def SV.valid (I : Nat → Prop) (w : World) : SV T → Prop
  | .v x => x.oneCell' = true
  | .o _ _ x n => ∃ A cap, x = .slice A n cap
  | .ov _ _ x _ _ => ∃ A n cap, x = .slice A n cap
  | .ro e x l => roOK I w e x l
  | .rq e x l _ _ => roOK I w e x l
  | .i _ x => x.valid I w
  | .a xs => Seg.validL I w xs
  | .t xs => SV.validL I w xs
  | .f _ a b => SV.validL I w a ∧ SV.validL I w b
  | _ => True
def SV.validL (I : Nat → Prop) (w : World) : List (SV T) → Prop
  | [] => True
  | x :: r => x.valid I w ∧ SV.validL I w r
def Seg.valid (I : Nat → Prop) (w : World) : Seg T → Prop
  | .c x => x.valid I w ∧ x.toV.oneCell' = true
  | .r _ n l => l.length = n
def Seg.validL (I : Nat → Prop) (w : World) : List (Seg T) → Prop
  | [] => True
  | x :: r => x.valid I w ∧ Seg.validL I w r
end

theorem validL_append (I : Nat → Prop) (w : World) (a b : List (Seg T)) : Seg.validL I w (a ++ b) ↔ Seg.validL I w a ∧ Seg.validL I w b := by
  induction a with
  | nil => simp [Seg.validL]
  | cons x r ih => simp [Seg.validL, ih, and_assoc]

theorem enc_flat_length (e : TypeId) (l : List (T.El e)) : (l.flatMap (T.enc e).enc).length = l.length * szE T e := by
  induction l with
  | nil => simp
  | cons x r ih => simp [ih, (T.enc e).len, szE, Nat.add_mul, Nat.add_comm]

theorem cellsL_length {I : Nat → Prop} {w : World} (a : List (Seg T)) (h : Seg.validL I w a) : (Seg.cellsL a).length = segsLen a := by
  induction a with
  | nil => simp [Seg.cellsL, segsLen]
  | cons x r ih =>
    obtain ⟨hx, hr⟩ := h
    cases x with
    | c x => simp [Seg.cellsL, segsLen, Seg.cells, ih hr]; omega
    | r e n l =>
      have hl : l.length = n := hx
      simp only [Seg.cellsL, segsLen, Seg.cells, List.length_append, ih hr, enc_flat_length, hl]

theorem cellsL_one {I : Nat → Prop} {w : World} (a : List (Seg T)) (h : Seg.validL I w a) : ∀ v ∈ Seg.cellsL a, v.oneCell' = true := by
  induction a with
  | nil => simp [Seg.cellsL]
  | cons x r ih =>
    obtain ⟨hx, hr⟩ := h
    intro v hv
    simp only [Seg.cellsL, List.mem_append] at hv
    rcases hv with hv | hv
    · cases x with
      | c x => simp only [Seg.cells, List.mem_singleton] at hv; subst hv; exact hx.2
      | r e n l =>
        simp only [Seg.cells, List.mem_flatMap] at hv
        obtain ⟨y, _, hy⟩ := hv
        exact (T.enc e).one y v hy
    · exact ih hr v hv

theorem findC_ok {I : Nat → Prop} {w : World} : ∀ (a : List (Seg T)) (o : Nat) (x : SV T), Seg.validL I w a → findC a o = some x →
    (Seg.cellsL a)[o]? = some x.toV ∧ x.valid I w ∧ x.toV.oneCell' = true := by
  intro a
  induction a with
  | nil => intro o x _ h; cases o <;> simp [findC] at h
  | cons y r ih =>
    intro o x hv h
    obtain ⟨hy, hr⟩ := hv
    cases y with
    | c y =>
      cases o with
      | zero =>
        simp only [findC, Option.some.injEq] at h; subst h
        exact ⟨by simp [Seg.cellsL, Seg.cells], hy.1, hy.2⟩
      | succ n =>
        simp only [findC] at h
        obtain ⟨h1, h2⟩ := ih n x hr h
        exact ⟨by simpa [Seg.cellsL, Seg.cells] using h1, h2⟩
    | r e k l =>
      simp only [findC] at h
      split at h
      · cases h
      · rename_i hn
        obtain ⟨h1, h2⟩ := ih _ x hr h
        have hl : (l.flatMap (T.enc e).enc).length = k * szE T e := by rw [enc_flat_length]; have : l.length = k := hy; rw [this]
        refine ⟨?_, h2⟩
        simp only [Seg.cellsL, Seg.cells]
        rw [List.getElem?_append_right (by rw [hl]; omega), hl]
        exact h1

theorem setC_ok {I : Nat → Prop} {w : World} : ∀ (a : List (Seg T)) (o : Nat) (y : SV T) (b : List (Seg T)), Seg.validL I w a → y.valid I w → y.toV.oneCell' = true → setC a o y = some b →
    Seg.cellsL b = (Seg.cellsL a).set o y.toV ∧ o < (Seg.cellsL a).length ∧ Seg.validL I w b := by
  intro a
  induction a with
  | nil => intro o y b _ _ _ h; cases o <;> simp [setC] at h
  | cons z r ih =>
    intro o y b hv hy h1 h
    obtain ⟨hz, hr⟩ := hv
    cases z with
    | c z =>
      cases o with
      | zero =>
        simp only [setC, Option.some.injEq] at h; subst h
        exact ⟨by simp [Seg.cellsL, Seg.cells], by simp [Seg.cellsL, Seg.cells], ⟨hy, h1⟩, hr⟩
      | succ n =>
        simp only [setC, Option.map_eq_some_iff] at h
        obtain ⟨b', hb, rfl⟩ := h
        obtain ⟨e1, e2, e3⟩ := ih n y b' hr hy h1 hb
        refine ⟨by simp [Seg.cellsL, Seg.cells, e1], by simp [Seg.cellsL, Seg.cells]; omega, hz, e3⟩
    | r e k l =>
      simp only [setC] at h
      split at h
      · cases h
      · rename_i hn
        simp only [Option.map_eq_some_iff] at h
        obtain ⟨b', hb, rfl⟩ := h
        obtain ⟨e1, e2, e3⟩ := ih _ y b' hr hy h1 hb
        have hl : (l.flatMap (T.enc e).enc).length = k * szE T e := by rw [enc_flat_length]; have : l.length = k := hz; rw [this]
        refine ⟨?_, ?_, hz, e3⟩
        · simp only [Seg.cellsL, Seg.cells, e1]
          rw [List.set_append_right _ _ (by rw [hl]; omega), hl]
        · simp only [Seg.cellsL, Seg.cells, List.length_append, hl]; omega

theorem findR_ok {I : Nat → Prop} {w : World} : ∀ (a : List (Seg T)) (o : Nat) (e : TypeId) (n : Nat) (l : List (T.El e)), Seg.validL I w a → findR a o = some (.mk e n l) →
    ∃ p q, a = p ++ .r e n l :: q ∧ segsLen p = o := by
  intro a
  induction a with
  | nil => intro o e n l _ h; cases o <;> simp [findR] at h
  | cons y r ih =>
    intro o e n l hv h
    obtain ⟨hy, hr⟩ := hv
    cases y with
    | c y =>
      cases o with
      | zero => simp [findR] at h
      | succ m =>
        simp only [findR] at h
        obtain ⟨p, q, rfl, hp⟩ := ih m e n l hr h
        exact ⟨.c y :: p, q, rfl, by simp [segsLen, hp]; omega⟩
    | r e' k l' =>
      simp only [findR] at h
      split at h
      · rename_i h0
        simp only [Option.some.injEq, Row.mk.injEq] at h
        obtain ⟨rfl, rfl, hl⟩ := h
        cases hl
        exact ⟨[], r, rfl, by simp [segsLen, h0]⟩
      · split at h
        · cases h
        · rename_i hn
          obtain ⟨p, q, rfl, hp⟩ := ih _ e n l hr h
          exact ⟨.r e' k l' :: p, q, rfl, by simp [segsLen, hp]; omega⟩

theorem setR_ok {I : Nat → Prop} {w : World} (e' : TypeId) (n' : Nat) (l' : List (T.El e')) : ∀ (a : List (Seg T)) (o : Nat) (b : List (Seg T)) (e : TypeId) (n : Nat) (l : List (T.El e)),
    Seg.validL I w a → findR a o = some (.mk e n l) → setR e' n' l' a o = some b → ∃ p q, a = p ++ .r e n l :: q ∧ b = p ++ .r e' n' l' :: q ∧ segsLen p = o ∧ e = e' := by
  intro a
  induction a with
  | nil => intro o b e n l _ h; cases o <;> simp [findR] at h
  | cons y r ih =>
    intro o b e n l hv h hs
    obtain ⟨hy, hr⟩ := hv
    cases y with
    | c y =>
      cases o with
      | zero => simp [findR] at h
      | succ m =>
        simp only [findR] at h
        simp only [setR, Option.map_eq_some_iff] at hs
        obtain ⟨b', hb, rfl⟩ := hs
        obtain ⟨p, q, rfl, rfl, hp, he⟩ := ih m b' e n l hr h hb
        exact ⟨.c y :: p, q, rfl, rfl, by simp [segsLen, hp]; omega, he⟩
    | r e2 k l2 =>
      simp only [findR] at h
      simp only [setR] at hs
      split at h
      · rename_i h0
        rw [if_pos h0] at hs
        simp only [Option.some.injEq, Row.mk.injEq] at h
        obtain ⟨rfl, rfl, hl⟩ := h
        cases hl
        split at hs
        · rename_i he
          simp only [Option.some.injEq] at hs
          subst hs
          exact ⟨[], r, rfl, rfl, by simp [segsLen, h0], he⟩
        · cases hs
      · rename_i h0
        rw [if_neg h0] at hs
        split at h
        · cases h
        · rename_i hn
          rw [if_neg hn] at hs
          simp only [Option.map_eq_some_iff] at hs
          obtain ⟨b', hb, rfl⟩ := hs
          obtain ⟨p, q, rfl, rfl, hp, he⟩ := ih _ b' e n l hr h hb
          exact ⟨.r e2 k l2 :: p, q, rfl, rfl, by simp [segsLen, hp]; omega, he⟩

theorem splitS_ok : ∀ (a : List (Seg T)) (n : Nat) (x y : List (Seg T)), splitS a n = some (x, y) → a = x ++ y ∧ segsLen x = n := by
  intro a
  induction a with
  | nil =>
    intro n x y h
    cases n with
    | zero => simp only [splitS, Option.some.injEq, Prod.mk.injEq] at h; obtain ⟨rfl, rfl⟩ := h; exact ⟨rfl, rfl⟩
    | succ n => simp [splitS] at h
  | cons z r ih =>
    intro n x y h
    cases n with
    | zero =>
      have : splitS (z :: r) 0 = some ([], z :: r) := by cases z <;> rfl
      rw [this] at h
      simp only [Option.some.injEq, Prod.mk.injEq] at h; obtain ⟨rfl, rfl⟩ := h; exact ⟨rfl, rfl⟩
    | succ n =>
      cases z with
      | c z =>
        simp only [splitS, Option.map_eq_some_iff, Prod.mk.injEq, Prod.exists] at h
        obtain ⟨a, b, hs, rfl, rfl⟩ := h
        obtain ⟨rfl, hl⟩ := ih n a b hs
        exact ⟨rfl, by simp [segsLen, hl]; omega⟩
      | r e k l =>
        simp only [splitS] at h
        split at h
        · cases h
        · rename_i hn
          simp only [Option.map_eq_some_iff, Prod.mk.injEq, Prod.exists] at h
          obtain ⟨a, b, hs, rfl, rfl⟩ := h
          obtain ⟨rfl, hl⟩ := ih _ a b hs
          exact ⟨rfl, by simp [segsLen, hl]; omega⟩

theorem subS_ok (xs : List (Seg T)) (off n : Nat) (m : List (Seg T)) (h : subS xs off n = some m) : ∃ p q, xs = p ++ m ++ q ∧ segsLen p = off ∧ segsLen m = n := by
  unfold subS at h
  split at h
  · rename_i p r h1
    split at h
    · rename_i m' q h2
      simp only [Option.some.injEq] at h; subst h
      obtain ⟨rfl, h3⟩ := splitS_ok _ _ _ _ h1
      obtain ⟨rfl, h4⟩ := splitS_ok _ _ _ _ h2
      exact ⟨p, q, by simp, h3, h4⟩
    · cases h
  · cases h
theorem putS_ok (xs : List (Seg T)) (off n : Nat) (ys zs : List (Seg T)) (h : putS xs off n ys = some zs) : ∃ p m q, xs = p ++ m ++ q ∧ zs = p ++ ys ++ q ∧ segsLen p = off ∧ segsLen m = n := by
  unfold putS at h
  split at h
  · rename_i p r h1
    split at h
    · rename_i m' q h2
      simp only [Option.some.injEq] at h; subst h
      obtain ⟨rfl, h3⟩ := splitS_ok _ _ _ _ h1
      obtain ⟨rfl, h4⟩ := splitS_ok _ _ _ _ h2
      exact ⟨p, m', q, by simp, rfl, h3, h4⟩
    · cases h
  · cases h

/-! ### Entries, heaps, steps -/
def Ent.has : Ent T → Nat → Prop
  | .B b _ _, k => b = k
  | .O x _ _, k => x.ownBlock = some k
  | .F m, k => m k ≠ none
  | .X, _ => False
def Owns (H : List (Ent T)) (k : Nat) : Prop := ∃ (i : Nat) (e : Ent T), H[i]? = some e ∧ e.has k
def Ent.ok (I : Nat → Prop) (w : World) : Ent T → Prop
  | .B b ty segs => w.heap[b]? = some (.cells (Seg.cellsL segs).toArray ty (0, 0)) ∧ Seg.validL I w segs
  | .O x e l => w.ownsRow 0 e (szE T e) x l.length (l.flatMap (T.enc e).enc)
  | .F m => ∀ k, m k ≠ none → w.heap[k]? = m k
  | .X => True

structure HOK (C : Ctx T) (H : List (Ent T)) (w : World) : Prop where
  ents : ∀ (i : Nat) (e : Ent T), H[i]? = some e → e.ok (Owns H) w
  apart : ∀ (i j : Nat) (e e' : Ent T) (k : Nat), H[i]? = some e → H[j]? = some e' → e.has k → e'.has k → i = j
  lt : ∀ k, Owns H k → k < w.heap.size
  glob : ∀ g v, (g, v) ∈ C.glob → w.cell? ⟨g, 0, none⟩ = some v ∧ v.oneCell' = true ∧ ¬ Owns H g ∧ g < w.heap.size

/-- From w to w': what was owned by I may have changed; what is owned by I' was, or is new; all else is as it was. -/
structure Stp (I I' : Nat → Prop) (w w' : World) : Prop where
  os : w'.os = w.os
  tape : w'.tape = w.tape
  output : w'.output = w.output
  size : w.heap.size ≤ w'.heap.size
  block : ∀ k, k < w.heap.size → ¬ I k → w'.heap[k]? = w.heap[k]?
  own : ∀ k, I' k → I k ∨ w.heap.size ≤ k

theorem Stp.refl (I : Nat → Prop) (w : World) : Stp I I w w := ⟨rfl, rfl, rfl, Nat.le_refl _, fun _ _ _ => rfl, fun _ h => .inl h⟩
theorem Stp.trans {I I' I'' : Nat → Prop} {a b c : World} (h : Stp I I' a b) (k : Stp I' I'' b c) : Stp I I'' a c :=
  ⟨k.os.trans h.os, k.tape.trans h.tape, k.output.trans h.output, Nat.le_trans h.size k.size,
   fun i hi hn => (k.block i (Nat.lt_of_lt_of_le hi h.size) (fun h' => (h.own i h').elim hn (fun h2 => by omega))).trans (h.block i hi hn),
   fun i hi => (k.own i hi).elim (fun h' => h.own i h') (fun h2 => .inr (Nat.le_trans h.size h2))⟩

theorem roOK.step {I I' : Nat → Prop} {w w' : World} {e : TypeId} {x : Value} {l : List (T.El e)} (h : roOK I w e x l) (s : Stp I I' w w') : roOK I' w' e x l := by
  obtain ⟨A, cap, hx, hc, hm, h⟩ := h
  refine ⟨A, cap, hx, hc, hm, fun hl => ?_⟩
  obtain ⟨ad, hA, hn, hlt, hcell⟩ := h hl
  refine ⟨ad, hA, fun h' => (s.own _ h').elim hn (fun h2 => by omega), Nat.lt_of_lt_of_le hlt s.size, fun j u hu => ?_⟩
  have hb : (ad.add j).block = ad.block := by unfold Addr.add; split <;> rfl
  rw [World.cell?_of_block (w := w) (a := ad.add j) (by rw [hb]; exact s.block _ hlt hn)]
  exact hcell j u hu

mutual
theorem SV.valid_step {I I' : Nat → Prop} {w w' : World} (s : Stp I I' w w') : ∀ x : SV T, x.valid I w → x.valid I' w'
  | .un, _ => trivial
  | .v x, h => h
  | .p _ _ _, _ => trivial
  | .s _ _ _ _ _ _ _, _ => trivial
  | .o _ _ _ _, h => h
  | .ov _ _ _ _ _, h => h
  | .q _ _ _ _ _, _ => trivial
  | .ro e x l, h => roOK.step h s
  | .rq e x l _ _, h => roOK.step h s
  | .i _ x, h => SV.valid_step s x h
  | .a xs, h => Seg.validL_step s xs h
  | .t xs, h => SV.validL_step s xs h
  | .f _ a b, h => ⟨SV.validL_step s a h.1, SV.validL_step s b h.2⟩
theorem SV.validL_step {I I' : Nat → Prop} {w w' : World} (s : Stp I I' w w') : ∀ x : List (SV T), SV.validL I w x → SV.validL I' w' x
  | [], _ => trivial
  | x :: r, h => ⟨SV.valid_step s x h.1, SV.validL_step s r h.2⟩
theorem Seg.valid_step {I I' : Nat → Prop} {w w' : World} (s : Stp I I' w w') : ∀ x : Seg T, x.valid I w → x.valid I' w'
  | .c x, h => ⟨SV.valid_step s x h.1, h.2⟩
  | .r _ _ _, h => h
theorem Seg.validL_step {I I' : Nat → Prop} {w w' : World} (s : Stp I I' w w') : ∀ x : List (Seg T), Seg.validL I w x → Seg.validL I' w' x
  | [], _ => trivial
  | x :: r, h => ⟨Seg.valid_step s x h.1, Seg.validL_step s r h.2⟩
end

theorem Ent.ok_step {I I' : Nat → Prop} {w w' : World} (s : Stp I I' w w') (e : Ent T) (h : e.ok I w) (hb : ∀ k, e.has k → w'.heap[k]? = w.heap[k]?) : e.ok I' w' := by
  cases e with
  | B b ty segs => exact ⟨(hb b rfl).trans h.1, Seg.validL_step s _ h.2⟩
  | O x e l =>
    obtain ⟨h1, h2⟩ := h
    refine ⟨h1, ?_⟩
    rcases h2 with h2 | ⟨g, cap, cur, hv, hg, hh, r⟩
    · exact .inl h2
    · exact .inr ⟨g, cap, cur, hv, hg, (hb g (by subst hv; rfl)).trans hh, r⟩
  | F m => exact fun k hk => (hb k hk).trans (h k hk)
  | X => trivial

/-- A new entry behind the others. -/
theorem HOK.push {C : Ctx T} {H : List (Ent T)} {w w' : World} (h : HOK C H w) (e : Ent T) (hos : w'.os = w.os) (htape : w'.tape = w.tape) (hout : w'.output = w.output)
    (hsize : w.heap.size ≤ w'.heap.size) (hblock : ∀ k, k < w.heap.size → w'.heap[k]? = w.heap[k]?) (hid : ∀ k, e.has k → w.heap.size ≤ k ∧ k < w'.heap.size)
    (hok : ∀ I : Nat → Prop, Stp (Owns H) I w w' → e.ok I w') : HOK C (H ++ [e]) w' ∧ Stp (Owns H) (Owns (H ++ [e])) w w' := by
  have hown : ∀ k, Owns (H ++ [e]) k → Owns H k ∨ e.has k := by
    rintro k ⟨i, e', hi, he⟩
    rw [List.getElem?_append] at hi
    split at hi
    · exact .inl ⟨i, e', hi, he⟩
    · rename_i hlt
      have : i - H.length = 0 := by
        rcases Nat.eq_zero_or_pos (i - H.length) with h0 | h0
        · exact h0
        · rw [List.getElem?_eq_none (by simp; omega)] at hi; cases hi
      rw [this] at hi
      simp at hi; subst hi
      exact .inr he
  have s : Stp (Owns H) (Owns (H ++ [e])) w w' := ⟨hos, htape, hout, hsize, fun k hk _ => hblock k hk, fun k hk => (hown k hk).imp id (fun he => (hid k he).1)⟩
  refine ⟨⟨?_, ?_, ?_, ?_⟩, s⟩
  · intro i e' hi
    rw [List.getElem?_append] at hi
    split at hi
    · exact Ent.ok_step s e' (h.ents i e' hi) (fun k hk => hblock k (h.lt k ⟨i, e', hi, hk⟩))
    · rename_i hlt
      have : i - H.length = 0 := by
        rcases Nat.eq_zero_or_pos (i - H.length) with h0 | h0
        · exact h0
        · rw [List.getElem?_eq_none (by simp; omega)] at hi; cases hi
      rw [this] at hi
      simp at hi; subst hi
      exact hok _ s
  · intro i j e1 e2 k hi hj h1 h2
    rw [List.getElem?_append] at hi hj
    split at hi <;> split at hj
    · exact h.apart i j e1 e2 k hi hj h1 h2
    · rename_i a b
      have h3 := h.lt k ⟨i, e1, hi, h1⟩
      have : e2 = e := by
        have : j - H.length = 0 := by
          rcases Nat.eq_zero_or_pos (j - H.length) with h0 | h0
          · exact h0
          · rw [List.getElem?_eq_none (by simp; omega)] at hj; cases hj
        rw [this] at hj; simp at hj; exact hj.symm
      subst this
      have := (hid k h2).1
      omega
    · rename_i a b
      have h3 := h.lt k ⟨j, e2, hj, h2⟩
      have : e1 = e := by
        have : i - H.length = 0 := by
          rcases Nat.eq_zero_or_pos (i - H.length) with h0 | h0
          · exact h0
          · rw [List.getElem?_eq_none (by simp; omega)] at hi; cases hi
        rw [this] at hi; simp at hi; exact hi.symm
      subst this
      have := (hid k h1).1
      omega
    · have a1 : i - H.length = 0 := by
        rcases Nat.eq_zero_or_pos (i - H.length) with h0 | h0
        · exact h0
        · rw [List.getElem?_eq_none (by simp; omega)] at hi; cases hi
      have a2 : j - H.length = 0 := by
        rcases Nat.eq_zero_or_pos (j - H.length) with h0 | h0
        · exact h0
        · rw [List.getElem?_eq_none (by simp; omega)] at hj; cases hj
      omega
  · intro k hk
    rcases hown k hk with h1 | h1
    · exact Nat.lt_of_lt_of_le (h.lt k h1) hsize
    · exact (hid k h1).2
  · intro g v hg
    obtain ⟨h1, h2, h3, h4⟩ := h.glob g v hg
    refine ⟨by rw [World.cell?_of_block (w := w) (hblock g h4)]; exact h1, h2, fun ho => ?_, Nat.lt_of_lt_of_le h4 hsize⟩
    rcases hown g ho with h5 | h5
    · exact h3 h5
    · have := (hid g h5).1; omega

/-- An entry in another's place: nothing else has changed. -/
theorem HOK.put {C : Ctx T} {H : List (Ent T)} {w w' : World} (h : HOK C H w) (n : Nat) (e0 e : Ent T) (hn : H[n]? = some e0) (hos : w'.os = w.os) (htape : w'.tape = w.tape) (hout : w'.output = w.output)
    (hsize : w.heap.size ≤ w'.heap.size) (hblock : ∀ k, k < w.heap.size → ¬ e0.has k → w'.heap[k]? = w.heap[k]?)
    (hid : ∀ k, e.has k → (e0.has k ∨ w.heap.size ≤ k) ∧ k < w'.heap.size)
    (hok : ∀ I : Nat → Prop, Stp (Owns H) I w w' → e.ok I w') : HOK C (H.set n e) w' ∧ Stp (Owns H) (Owns (H.set n e)) w w' := by
  have hlen : n < H.length := by
    rcases Nat.lt_or_ge n H.length with h0 | h0
    · exact h0
    · rw [List.getElem?_eq_none h0] at hn; cases hn
  have hget : ∀ (i : Nat) (e' : Ent T), (H.set n e)[i]? = some e' → (i = n ∧ e' = e) ∨ (i ≠ n ∧ H[i]? = some e') := by
    intro i e' hi
    rw [List.getElem?_set] at hi
    split at hi
    · rename_i h0; subst h0
      simp at hi
      exact .inl ⟨rfl, hi.symm⟩
    · rename_i h0
      exact .inr ⟨fun h => h0 h.symm, hi⟩
  have hown : ∀ k, Owns (H.set n e) k → Owns H k ∨ w.heap.size ≤ k := by
    rintro k ⟨i, e', hi, he⟩
    rcases hget i e' hi with ⟨rfl, rfl⟩ | ⟨_, hi⟩
    · rcases (hid k he).1 with h1 | h1
      · exact .inl ⟨i, e0, hn, h1⟩
      · exact .inr h1
    · exact .inl ⟨i, e', hi, he⟩
  have hkeep : ∀ (i : Nat) (e' : Ent T) (k : Nat), i ≠ n → H[i]? = some e' → e'.has k → w'.heap[k]? = w.heap[k]? := by
    intro i e' k hne hi he
    exact hblock k (h.lt k ⟨i, e', hi, he⟩) (fun h0 => hne (h.apart i n e' e0 k hi hn he h0))
  have s : Stp (Owns H) (Owns (H.set n e)) w w' := ⟨hos, htape, hout, hsize, fun k hk hno => hblock k hk (fun h0 => hno ⟨n, e0, hn, h0⟩), hown⟩
  refine ⟨⟨?_, ?_, ?_, ?_⟩, s⟩
  · intro i e' hi
    rcases hget i e' hi with ⟨rfl, rfl⟩ | ⟨hne, hi⟩
    · exact hok _ s
    · exact Ent.ok_step s e' (h.ents i e' hi) (fun k hk => hkeep i e' k hne hi hk)
  · intro i j e1 e2 k hi hj h1 h2
    rcases hget i e1 hi with ⟨hi1, hi2⟩ | ⟨ha, hi'⟩ <;> rcases hget j e2 hj with ⟨hj1, hj2⟩ | ⟨hb, hj'⟩
    · rw [hi1, hj1]
    · subst hi1 hi2
      rcases (hid k h1).1 with h3 | h3
      · exact absurd (h.apart j i e2 e0 k hj' hn h2 h3) hb
      · have := h.lt k ⟨j, e2, hj', h2⟩; omega
    · subst hj1 hj2
      rcases (hid k h2).1 with h3 | h3
      · exact absurd (h.apart i j e1 e0 k hi' hn h1 h3) ha
      · have := h.lt k ⟨i, e1, hi', h1⟩; omega
    · exact h.apart i j e1 e2 k hi' hj' h1 h2
  · rintro k ⟨i, e', hi, he⟩
    rcases hget i e' hi with ⟨rfl, rfl⟩ | ⟨_, hi⟩
    · exact (hid k he).2
    · exact Nat.lt_of_lt_of_le (h.lt k ⟨i, e', hi, he⟩) hsize
  · intro g v hg
    obtain ⟨h1, h2, h3, h4⟩ := h.glob g v hg
    refine ⟨by rw [World.cell?_of_block (w := w) (hblock g h4 (fun h0 => h3 ⟨n, e0, hn, h0⟩))]; exact h1, h2, fun ho => ?_, Nat.lt_of_lt_of_le h4 hsize⟩
    rcases hown g ho with h5 | h5
    · exact h3 h5
    · omega
end Go.Vg
