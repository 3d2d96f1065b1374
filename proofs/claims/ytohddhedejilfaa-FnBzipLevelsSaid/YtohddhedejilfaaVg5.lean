/-
  The generator's soundness, part 2: reading.
-/
import Derived.Test.YtohddhedejilfaaVg4
import Derived.Laws.Entries
import Derived.Laws.Cells
import Derived.OrdersHeld
set_option linter.unusedVariables false
namespace Go.Vg
variable {T : Tys}

structure FrOK (S : St T) (a : Act) (I : Nat → Prop) (w : World) : Prop where
  size : a.tmps.size = S.fr.length
  get : ∀ i x, S.get i = some x → a.tmps[i]? = some x.toV ∧ x.valid I w

theorem FrOK.step {S : St T} {a : Act} {I I' : Nat → Prop} {w w' : World} (h : FrOK S a I w) (s : Stp I I' w w') : FrOK S a I' w' :=
  ⟨h.size, fun i x hx => ⟨(h.get i x hx).1, SV.valid_step s x (h.get i x hx).2⟩⟩

theorem ev_ok {S : St T} {a : Act} {I : Nat → Prop} {w : World} (h : FrOK S a I w) {x : Operand} {y : SV T} (hx : S.ev x = some y) : a.eval x = y.toV ∧ y.valid I w := by
  cases x with
  | tmp t =>
    obtain ⟨h1, h2⟩ := h.get t y hx
    refine ⟨?_, h2⟩
    show a.tmps.getD t undef = _
    rw [Array.getD_eq_getD_getElem?, h1]; rfl
  | const v =>
    simp only [St.ev] at hx
    split at hx
    · rename_i hv
      simp only [Option.some.injEq] at hx; subst hx
      exact ⟨rfl, hv⟩
    · cases hx
  | global g => simp only [St.ev, Option.some.injEq] at hx; subst hx; exact ⟨rfl, rfl⟩
  | func f => simp only [St.ev, Option.some.injEq] at hx; subst hx; exact ⟨rfl, rfl⟩

theorem St.get_set {S : St T} {d i : Nat} {x y : SV T} (h : (S.set (some d) x).get i = some y) : (d = i ∧ x = y ∧ d < S.fr.length) ∨ (d ≠ i ∧ S.get i = some y) := by
  rcases Fr.get_set h with ⟨h1, h2, h3⟩ | ⟨h1, h2⟩
  · exact .inl ⟨h1, Option.some.inj h2, h3⟩
  · exact .inr ⟨h1, h2⟩

theorem frOK_set {S : St T} {a : Act} {I : Nat → Prop} {w : World} (h : FrOK S a I w) (d : Option Tmp) {x : SV T} (hx : x.valid I w) : FrOK (S.set d x) (a.put d x.toV) I w := by
  cases d with
  | none => exact h
  | some d =>
    refine ⟨by simp [Act.put, St.set, Fr.set, h.size], fun i y hy => ?_⟩
    simp only [Act.put, Array.getElem?_setIfInBounds]
    rcases St.get_set hy with ⟨rfl, rfl, h1⟩ | ⟨h0, hy⟩
    · exact ⟨by rw [if_pos rfl, if_pos (by rw [h.size]; exact h1)], hx⟩
    · rw [if_neg h0]
      exact h.get i y hy

theorem frOK_H {S : St T} {a : Act} {I : Nat → Prop} {w : World} (h : FrOK S a I w) (H : List (Ent T)) : FrOK { S with H := H } a I w := ⟨h.size, h.get⟩

theorem prun_run {α : Type} {P : Program} : ∀ (s : Sem α) (a : α) (w : World), prun P s = some a → s.run P w = .ok a w := by
  intro s
  induction s with
  | pure a => intro b w h; simp only [prun, Option.some.injEq] at h; subst h; rfl
  | program k ih => intro b w h; simp only [prun] at h; simp only [Sem.run]; exact ih P b w h
  | mark m k ih => intro b w h; simp only [prun] at h; simp only [Sem.run]; exact ih b w h
  | load | store | new | shape | freeze | frozen | getObj | setObj | choose | sys | halt => intro b w h; simp [prun] at h

theorem sizeT_run {P : Program} {t n : Nat} (h : sizeT P t = some n) (w : World) : (sizeOf t).run P w = .ok n w := by
  unfold sizeT at h
  simp only [Option.map_eq_some_iff] at h
  obtain ⟨i, hi, rfl⟩ := h
  simp [sizeOf, typeInfo, hi]
theorem isAggT_run {P : Program} {t : Nat} {b : Bool} (h : isAggT P t = some b) (w : World) : (isAgg t).run P w = .ok b w := by
  unfold isAggT at h
  unfold isAgg
  split at h
  all_goals first | (cases h; done) | skip
  all_goals (rename_i d hd; simp only [Option.some.injEq] at h; subst h; simp only [Sem.run_bind, run_underlying hd, Result.andThen_ok])
  all_goals first | rfl | skip

theorem add_block (b o j : Nat) : (⟨b, o, none⟩ : Addr).add j = ⟨b, o + j, none⟩ := by
  unfold Addr.add; split <;> simp_all

theorem cell_blk {w : World} {b : Nat} {cs : List Value} {t : TypeId} (h : w.heap[b]? = some (.cells cs.toArray t (0, 0))) (o : Nat) : w.cell? ⟨b, o, none⟩ = cs[o]? := by
  simp [World.cell?, h]

/-- A variable read out of a block that is known. -/
theorem loadVar_agg {P : Program} {w : World} {b o t n : Nat} {cs : List Value} {ty : TypeId} (hb : w.heap[b]? = some (.cells cs.toArray ty (0, 0))) (ha : isAggT P t = some true) (hn : sizeT P t = some n)
    (hl : o + n ≤ cs.length) : (loadVar t ⟨b, o, none⟩).run P w = .ok (.agg ((cs.drop o).take n).toArray) w := by
  unfold loadVar
  simp only [Sem.run_bind, isAggT_run ha, Result.andThen_ok, sizeT_run hn, if_true]
  have hlen : ((cs.drop o).take n).length = n := by simp; omega
  have := run_loadCells_list (P := P) w ⟨b, o, none⟩ ((cs.drop o).take n) (fun j v hj => by
    rw [add_block, cell_blk hb]
    rw [List.getElem?_take] at hj
    split at hj
    · rw [List.getElem?_drop] at hj; exact hj
    · cases hj)
  rw [hlen] at this
  rw [this]; rfl
theorem loadVar_one {P : Program} {w : World} {a : Addr} {t : Nat} {v : Value} (hc : w.cell? a = some v) (ha : isAggT P t = some false) : (loadVar t a).run P w = .ok v w := by
  unfold loadVar
  simp only [Sem.run_bind, isAggT_run ha, Result.andThen_ok]
  simp [load, Sem.run, hc]

theorem lift_val {P : Program} {s : Sem Value} {w : World} {v : Value} (h : s.run P w = .ok v w) : (do pure (.value (← s)) : Sem Next).run P w = .ok (.value v) w := by
  simp only [Sem.run_bind, h, Result.andThen_ok]; rfl

theorem readS_ok {P : Program} {I : Nat → Prop} {w : World} {b o t : Nat} {segs : List (Seg T)} {ty : TypeId} {y : SV T} (hb : w.heap[b]? = some (.cells (Seg.cellsL segs).toArray ty (0, 0))) (hv : Seg.validL I w segs)
    (h : readS P t segs o = some y) : (loadVar t ⟨b, o, none⟩).run P w = .ok y.toV w ∧ y.valid I w := by
  unfold readS at h
  split at h
  · rename_i n ha hn
    simp only [Option.map_eq_some_iff] at h
    obtain ⟨m, hm, rfl⟩ := h
    obtain ⟨p, q, rfl, hp, hmn⟩ := subS_ok _ _ _ _ hm
    rw [validL_append, validL_append] at hv
    have h1 := cellsL_length p hv.1.1
    have h2 := cellsL_length m hv.1.2
    refine ⟨?_, hv.1.2⟩
    rw [loadVar_agg hb ha hn (by simp only [cellsL_append, List.length_append]; omega)]
    simp only [SV.toV, cellsL_append]
    congr 3
    rw [List.append_assoc, List.drop_append_of_le_length (by omega), ← hp, ← h1, List.drop_length, List.nil_append, List.take_append_of_le_length (by omega), ← hmn, ← h2, List.take_length]
  · rename_i ha
    obtain ⟨h1, h2, _⟩ := findC_ok _ _ _ hv h
    exact ⟨loadVar_one (by rw [cell_blk hb]; exact h1) ha, h2⟩
  · cases h

theorem validL_vs {I : Nat → Prop} {w : World} : ∀ (l : List Value), (∀ v ∈ l, v.oneCell' = true) → Seg.validL (T := T) I w (l.map fun y => .c (.v y))
  | [], _ => trivial
  | x :: r, h => ⟨⟨h x (by simp), h x (by simp)⟩, validL_vs r (fun v hv => h v (by simp [hv]))⟩
theorem cellsL_vs : ∀ (l : List Value), Seg.cellsL (T := T) (l.map fun y => .c (.v y)) = l
  | [] => rfl
  | x :: r => by simp [Seg.cellsL, Seg.cells, SV.toV]; exact cellsL_vs r

/-- An element's part, read out of cells that begin at an address. -/
theorem readE_ok {P : Program} {I : Nat → Prop} {w : World} {t fld : Nat} {ad : Addr} {cells : List Value} {y : SV T} (h1 : ∀ v ∈ cells, v.oneCell' = true)
    (hc : ∀ j u, cells[j]? = some u → w.cell? (ad.add j) = some u) (had : ∀ j k : Nat, (ad.add j).add k = ad.add (j + k)) (h : readE P t cells fld = some y) :
    (loadVar t (ad.add fld)).run P w = .ok y.toV w ∧ y.valid I w := by
  unfold readE at h
  split at h
  · rename_i n ha hn
    split at h
    · rename_i hle
      simp only [Option.some.injEq] at h; subst h
      have hlen : ((cells.drop fld).take n).length = n := by simp; omega
      refine ⟨?_, validL_vs _ (fun v hv => h1 v (List.mem_of_mem_drop (List.mem_of_mem_take hv)))⟩
      unfold loadVar
      simp only [Sem.run_bind, isAggT_run ha, Result.andThen_ok, sizeT_run hn, if_true]
      have := run_loadCells_list (P := P) w (ad.add fld) ((cells.drop fld).take n) (fun j v hj => by
        rw [had]
        rw [List.getElem?_take] at hj
        split at hj
        · rw [List.getElem?_drop] at hj; exact hc _ _ hj
        · cases hj)
      rw [hlen] at this
      rw [this]
      simp only [SV.toV, cellsL_vs]; rfl
    · cases h
  · rename_i ha
    simp only [Option.map_eq_some_iff] at h
    obtain ⟨v, hv, rfl⟩ := h
    exact ⟨loadVar_one (hc _ _ hv) ha, h1 v (List.mem_of_getElem? hv)⟩
  · cases h

theorem addr_add_add (a : Addr) (j k : Nat) : (a.add j).add k = a.add (j + k) := by
  unfold Addr.add
  by_cases hj : j = 0 <;> by_cases hk : k = 0 <;> simp [hj, hk, Nat.add_assoc]

theorem flat_get (e : TypeId) : ∀ (l : List (T.El e)) (i j : Nat) (y : T.El e), l[i]? = some y → j < szE T e → (l.flatMap (T.enc e).enc)[i * szE T e + j]? = ((T.enc e).enc y)[j]? := by
  intro l
  induction l with
  | nil => intro i j y h; simp at h
  | cons x r ih =>
    intro i j y h hj
    have hx : ((T.enc e).enc x).length = szE T e := (T.enc e).len x
    cases i with
    | zero =>
      simp at h; subst h
      simp only [List.flatMap_cons, Nat.zero_mul, Nat.zero_add]
      rw [List.getElem?_append_left (by omega)]
    | succ i =>
      simp only [List.getElem?_cons_succ] at h
      simp only [List.flatMap_cons]
      rw [List.getElem?_append_right (by rw [hx, Nat.succ_mul]; omega), hx, ← ih i j y h hj]
      congr 1
      rw [Nat.succ_mul]; omega

/-- An element of a row: its cells. -/
theorem elem_cells {w : World} {e : TypeId} {l : List (T.El e)} {ad : Addr} (hc : ∀ j u, (l.flatMap (T.enc e).enc)[j]? = some u → w.cell? (ad.add j) = some u) {i : Nat} {y : T.El e} (hy : l[i]? = some y) :
    ∀ j u, ((T.enc e).enc y)[j]? = some u → w.cell? ((ad.add (i * szE T e)).add j) = some u := by
  intro j u hu
  have hj : j < szE T e := by
    have := (T.enc e).len y
    rcases Nat.lt_or_ge j (szE T e) with h0 | h0
    · exact h0
    · rw [List.getElem?_eq_none (by unfold szE at h0; omega)] at hu; cases hu
  rw [addr_add_add]
  exact hc _ _ (by rw [flat_get e l i j y hy hj]; exact hu)

theorem elemK_ok {P : Program} {I : Nat → Prop} {w : World} {t e : Nat} {l : List (T.El e)} {i fld : Nat} {k : SV T → VCT} {ad : Addr} (hc : ∀ j u, (l.flatMap (T.enc e).enc)[j]? = some u → w.cell? (ad.add j) = some u)
    (h : (elemK P t e l i fld k).den) : ∃ y, (k y).den ∧ y.valid I w ∧ (loadVar t (ad.add (i * szE T e + fld))).run P w = .ok y.toV w := by
  obtain ⟨hi, h⟩ := h
  have hy : l[i]? = some l[i] := List.getElem?_eq_getElem hi
  have h := h l[i] hy
  split at h
  · rename_i z hz
    obtain ⟨h1, h2⟩ := readE_ok (I := I) ((T.enc e).one l[i]) (elem_cells hc hy) (addr_add_add _) hz
    rw [addr_add_add] at h1
    exact ⟨z, h, h2, h1⟩
  · exact h.elim

theorem row_in_block {w : World} {b : Nat} {p q : List (Seg T)} {e : TypeId} {n : Nat} {l : List (T.El e)} {ty : TypeId} {I : Nat → Prop} (hv : Seg.validL I w (p ++ .r e n l :: q))
    (hb : w.heap[b]? = some (.cells (Seg.cellsL (p ++ .r e n l :: q)).toArray ty (0, 0))) : ∀ j u, (l.flatMap (T.enc e).enc)[j]? = some u → w.cell? ((⟨b, segsLen p, none⟩ : Addr).add j) = some u := by
  intro j u hu
  rw [validL_append] at hv
  have hp := cellsL_length p hv.1
  have hj : j < (l.flatMap (T.enc e).enc).length := by
    rcases Nat.lt_or_ge j (l.flatMap (T.enc e).enc).length with h0 | h0
    · exact h0
    · rw [List.getElem?_eq_none h0] at hu; cases hu
  rw [add_block, cell_blk hb, cellsL_append, List.getElem?_append_right (by omega)]
  simp only [Seg.cellsL, Seg.cells]
  rw [hp, Nat.add_sub_cancel_left, List.getElem?_append_left hj]
  exact hu

theorem ent_ok {C : Ctx T} {S : St T} {w : World} (hH : HOK C S.H w) (h : Nat) : (S.ent h).ok (Owns S.H) w := by
  unfold St.ent
  rw [List.getD_eq_getElem?_getD]
  cases he : S.H[h]? with
  | none => trivial
  | some e => exact hH.ents h e he
theorem ent_get {S : St T} {h : Nat} {e : Ent T} (he : S.ent h = e) (hx : e ≠ .X) : S.H[h]? = some e := by
  unfold St.ent at he
  rw [List.getD_eq_getElem?_getD] at he
  cases h0 : S.H[h]? with
  | none => rw [h0] at he; exact absurd he.symm hx
  | some e' => rw [h0] at he; simp at he; rw [he]

/-- A row of the call's own: its cells. -/
theorem own_cells {w : World} {e : TypeId} {x : Value} {l : List (T.El e)} (h : w.ownsRow 0 e (szE T e) x l.length (l.flatMap (T.enc e).enc)) (hl : 0 < l.length) :
    ∃ g cap, x = .slice (some ⟨g, 0, none⟩) l.length cap ∧ l.length ≤ cap ∧ cap ≤ maxLen ∧ ∀ j u, (l.flatMap (T.enc e).enc)[j]? = some u → w.cell? ((⟨g, 0, none⟩ : Addr).add j) = some u := by
  obtain ⟨h1, h2⟩ := h
  rcases h2 with ⟨_, h2⟩ | ⟨g, cap, cur, hv, _, hh, hn, hm, hs, ht⟩
  · omega
  · refine ⟨g, cap, hv, hn, hm, fun j u hu => ?_⟩
    rw [add_block]
    simp only [World.cell?, hh, Nat.zero_add]
    simp only [Option.isSome_none, Bool.false_eq_true, if_false]
    rw [← ht, List.getElem?_take] at hu
    split at hu
    · simpa using hu
    · cases hu

theorem ptrLoad_ok {C : Ctx T} {t : TypeId} {S : St T} {x : SV T} {k : SV T → VCT} {w : World} (hH : HOK C S.H w) (hx : x.valid (Owns S.H) w) (h : (ptrLoad C t S x k).den) :
    ∃ y, (k y).den ∧ y.valid (Owns S.H) w ∧ (Instr.loadAt t x.toV).run C.P w = .ok y.toV w := by
  have sure : ∀ (a : Addr) (s : Addr → Sem Value), (Instr.sureAddr (.pointer (some a)) >>= s) = s a := fun a s => rfl
  unfold ptrLoad at h
  split at h
  · rename_i hh b o
    split at h
    · rename_i b' ty segs he
      have hok := ent_ok hH hh
      rw [he] at hok
      split at h
      · rename_i y hy
        obtain ⟨rfl, hk⟩ := h
        obtain ⟨h1, h2⟩ := readS_ok hok.1 hok.2 hy
        exact ⟨y, hk, h2, h1⟩
      · exact h.elim
    · exact h.elim
  · rename_i hh b base i sz fld
    split at h
    · rename_i b' ty segs he
      have hok := ent_ok hH hh
      rw [he] at hok
      split at h
      · rename_i e n l hr
        split at h
        · rename_i hsz
          obtain ⟨rfl, hk⟩ := h
          obtain ⟨p, q, rfl, hp⟩ := findR_ok _ _ _ _ _ hok.2 hr
          obtain ⟨y, h1, h2, h3⟩ := elemK_ok (I := Owns S.H) (row_in_block hok.2 hok.1) hk
          refine ⟨y, h1, h2, ?_⟩
          rw [add_block, hp] at h3
          simp only [SV.toV, Instr.loadAt, sure, Off.val, hsz]
          rw [Nat.add_assoc]
          exact h3
        · exact h.elim
      · exact h.elim
    · exact h.elim
  · rename_i hh e v i fld
    split at h
    · rename_i v' e' l he
      have hok := ent_ok hH hh
      rw [he] at hok
      split at h
      · rename_i hee
        subst hee
        obtain ⟨rfl, hk⟩ := h
        obtain ⟨g, cap, rfl, _, _, hc⟩ := own_cells hok (by have := hk.1; omega)
        obtain ⟨y, h1, h2, h3⟩ := elemK_ok (I := Owns S.H) hc hk
        exact ⟨y, h1, h2, h3⟩
      · exact h.elim
    · exact h.elim
  · rename_i e v l i fld
    obtain ⟨A, cap, rfl, _, _, hro⟩ := hx
    obtain ⟨ad, rfl, _, _, hc⟩ := hro (by have := h.1; omega)
    obtain ⟨y, h1, h2, h3⟩ := elemK_ok (I := Owns S.H) hc h
    exact ⟨y, h1, h2, h3⟩
  · rename_i g
    split at h
    · rename_i y hy
      split at h
      · rename_i ha
        have hm : (g, y) ∈ C.glob := by
          have := List.lookup_eq_some_iff.1 hy
          obtain ⟨l1, l2, h1, _⟩ := this
          rw [h1]; simp
        obtain ⟨h1, h2, _, _⟩ := hH.glob g y hm
        exact ⟨.v y, h, h2, loadVar_one h1 ha⟩
      · exact h.elim
    · exact h.elim
  · exact h.elim
end Go.Vg
