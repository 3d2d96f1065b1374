/-
  The generator's soundness, part 9: append, copy, make.
-/
import Derived.Test.YtohddhedejilfaaVg11
set_option linter.unusedVariables false
namespace Go.Vg
variable {T : Tys}

/-- A value that is a slice of these elements, which can be read. -/
def Src (w : World) (e : TypeId) (v : Value) (l : List (T.El e)) : Prop :=
  ∃ A c, v = .slice A l.length c ∧ (A = none → l = []) ∧ (0 < l.length → ∃ ad, A = some ad ∧ ∀ j u, (l.flatMap (T.enc e).enc)[j]? = some u → w.cell? (ad.add j) = some u)

theorem decL_ok (e : TypeId) : ∀ (n : Nat) (l : List Value) (xs : List (T.El e)), decL e n l = some xs → xs.length = n ∧ xs.flatMap (T.enc e).enc = l.take (n * szE T e)
  | 0, l, xs, h => by simp only [decL, Option.some.injEq] at h; subst h; simp
  | n + 1, l, xs, h => by
    simp only [decL] at h
    split at h
    · rename_i x r hx hr
      simp only [Option.some.injEq] at h; subst h
      obtain ⟨h1, h2⟩ := decL_ok e n _ r hr
      refine ⟨by simp [h1], ?_⟩
      have := (T.enc e).dec_ok _ _ hx
      simp only [List.flatMap_cons, this, h2, Nat.succ_mul, Nat.add_comm (n * szE T e)]
      rw [List.take_add]
    · cases h

theorem own_src {w : World} {e : TypeId} {x : Value} {l : List (T.El e)} (h : w.ownsRow 0 e (szE T e) x l.length (l.flatMap (T.enc e).enc)) : Src w e x l := by
  rcases Nat.eq_zero_or_pos l.length with h0 | h0
  · have hl : l = [] := List.eq_nil_of_length_eq_zero h0
    subst hl
    rcases h.2 with ⟨rfl, _⟩ | ⟨g, cap, cur, rfl, _⟩
    · exact ⟨none, 0, rfl, fun _ => rfl, fun h => by simp at h⟩
    · exact ⟨_, _, rfl, fun _ => rfl, fun h => by simp at h⟩
  · obtain ⟨g, cap, rfl, _, _, hc⟩ := own_cells h h0
    exact ⟨_, _, rfl, (fun h => by cases h), fun _ => ⟨_, rfl, hc⟩⟩

theorem src_cut {w : World} {e : TypeId} {x : Value} {l : List (T.El e)} {lo hi n cap : Nat} {A : Option Addr} (hx : x = .slice A n cap) (hn : l.length ≤ cap) (h : 0 < l.length → ∃ ad, A = some ad ∧ ∀ j u, (l.flatMap (T.enc e).enc)[j]? = some u → w.cell? (ad.add j) = some u)
    (hlo : lo ≤ hi) (hhi : hi ≤ l.length) (hA : A = none → l = []) : Src w e (sliceVal x lo hi (szE T e)) ((l.take hi).drop lo) := by
  subst hx
  have hlen : ((l.take hi).drop lo).length = hi - lo := by simp; omega
  refine ⟨if cap = lo then A else A.map (·.add (lo * szE T e)), cap - lo, by simp only [sliceVal]; rw [hlen], fun h0 => ?_, fun h0 => ?_⟩
  · have : A = none := by
      split at h0
      · exact h0
      · cases A <;> simp_all
    rw [hA this]; simp
  · rw [hlen] at h0
    obtain ⟨ad, rfl, hc⟩ := h (by omega)
    rw [if_neg (by omega)]
    refine ⟨_, rfl, fun j u hu => ?_⟩
    rw [take_drop_flat, List.getElem?_drop] at hu
    rw [addr_add_add]
    exact hc _ _ (flat_prefix e _ _ _ hu)

theorem srcK_ok {C : Ctx T} {S : St T} {e : TypeId} {x : SV T} {k : List (T.El e) → VCT} {w : World} (hH : HOK C S.H w) (hx : x.valid (Owns S.H) w) (h : (srcK S e x k).den) :
    ∃ l, (k l).den ∧ Src w e x.toV l := by
  unfold srcK at h
  split at h
  · exact ⟨[], h, none, _, rfl, fun _ => rfl, fun h => by simp at h⟩
  · split at h
    · rename_i e' v l he
      subst he
      obtain ⟨A, cap, rfl, hc, hm, hro⟩ := hx
      by_cases hA : A = none
      · subst hA
        have hl : l = [] := by
          rcases Nat.eq_zero_or_pos l.length with h0 | h0
          · exact List.eq_nil_of_length_eq_zero h0
          · obtain ⟨ad, h1, _⟩ := hro h0; cases h1
        subst hl
        exact ⟨[], h, none, cap, rfl, fun _ => rfl, fun h => by simp at h⟩
      · exact ⟨l, h, A, cap, rfl, fun h => absurd h hA, fun h => by obtain ⟨ad, h1, _, _, h2⟩ := hro h; exact ⟨ad, h1, h2⟩⟩
    · exact h.elim
  · rename_i hh e' v n
    split at h
    · rename_i v' e2 l he
      have hok := ent_ok hH hh
      rw [he] at hok
      split at h
      · rename_i hee
        subst hee
        obtain ⟨⟨rfl, _⟩, h⟩ := h
        exact ⟨l, h, own_src hok⟩
      · exact h.elim
    · exact h.elim
  · rename_i hh e' v lo hi
    split at h
    · rename_i v' e2 l he
      have hok := ent_ok hH hh
      rw [he] at hok
      split at h
      · rename_i hee
        subst hee
        split at h
        case isFalse => exact h.elim
        rename_i hee2
        subst hee2
        obtain ⟨⟨rfl, hlo, hhi⟩, h⟩ := h
        refine ⟨_, h, ?_⟩
        rcases Nat.eq_zero_or_pos l.length with h0 | h0
        · have hl : l = [] := List.eq_nil_of_length_eq_zero h0
          subst hl
          rcases hok.2 with ⟨rfl, _⟩ | ⟨g, cap, cur, rfl, _, _, hnc, _⟩
          · exact src_cut (l := []) (n := 0) (cap := 0) rfl (by simp) (fun h => by simp at h) hlo hhi (fun _ => rfl)
          · exact src_cut (l := []) rfl hnc (fun h => by simp at h) hlo hhi (fun _ => rfl)
        · obtain ⟨g, cap, rfl, hnc, _, hc⟩ := own_cells hok h0
          exact src_cut (l := l) rfl hnc (fun _ => ⟨_, rfl, hc⟩) hlo hhi (fun h => by cases h)
      · exact h.elim
    · exact h.elim
  · rename_i hh b e' base lo len cap
    split at h
    · rename_i b' ty segs he
      have hok := ent_ok hH hh
      rw [he] at hok
      split at h
      · rename_i e2 n l hr
        split at h
        · rename_i hee
          subst hee
          split at h
          case isFalse => exact h.elim
          rename_i hee2
          subst hee2
          obtain ⟨⟨rfl, hle⟩, h⟩ := h
          refine ⟨_, h, ?_⟩
          obtain ⟨p, q, rfl, hp⟩ := findR_ok _ _ _ _ _ hok.2 hr
          have hrow := row_in_block hok.2 hok.1
          have hlen : ((l.take (lo + len)).drop lo).length = len := by simp; omega
          refine ⟨_, cap, by simp only [SV.toV]; rw [hlen], (fun h => by cases h), fun _ => ⟨_, rfl, fun j u hu => ?_⟩⟩
          rw [take_drop_flat, List.getElem?_drop] at hu
          have := hrow _ _ (flat_prefix _ _ _ _ hu)
          rw [hp, add_block] at this
          rw [add_block, Nat.add_assoc]
          exact this
        · exact h.elim
      · split at h
        · rename_i hee
          subst hee
          split at h
          · rename_i xs hxs
            split at h
            · rename_i l hl
              obtain ⟨rfl, h⟩ := h
              obtain ⟨p, q, rfl, hp, hm⟩ := subS_ok _ _ _ _ hxs
              obtain ⟨h1, h2⟩ := decL_ok _ _ _ _ hl
              have hv := hok.2
              rw [validL_append, validL_append] at hv
              have lp := cellsL_length p hv.1.1
              have lx := cellsL_length xs hv.1.2
              refine ⟨l, h, _, cap, by simp only [SV.toV]; rw [h1], (fun h => by cases h), fun _ => ⟨_, rfl, fun j u hu => ?_⟩⟩
              rw [h2, List.take_of_length_le (by omega)] at hu
              rw [add_block, cell_blk hok.1]
              simp only [cellsL_append]
              have hj : j < (Seg.cellsL xs).length := by
                rcases Nat.lt_or_ge j (Seg.cellsL xs).length with h0 | h0
                · exact h0
                · rw [List.getElem?_eq_none h0] at hu; cases hu
              have hpp : base + lo * (T.enc e').sz = (Seg.cellsL p).length := by rw [lp, hp]; rfl
              rw [List.append_assoc, hpp, List.getElem?_append_right (by omega), Nat.add_sub_cancel_left, List.getElem?_append_left hj]
              exact hu
            · exact h.elim
          · exact h.elim
        · exact h.elim
    · exact h.elim
  · exact h.elim

/-- What a slice value brings: where append finds it. -/
theorem src_cases {w : World} {e : TypeId} {v : Value} {l : List (T.El e)} (h : Src w e v l) : (∃ c, v = .slice none 0 c ∧ l = []) ∨ ∃ ad c, v = .slice (some ad) l.length c ∧ ∀ j u, (l.flatMap (T.enc e).enc)[j]? = some u → w.cell? (ad.add j) = some u := by
  obtain ⟨A, c, rfl, h1, h2⟩ := h
  cases A with
  | none => rw [h1 rfl]; exact .inl ⟨c, rfl, rfl⟩
  | some ad =>
    refine .inr ⟨ad, c, rfl, fun j u hu => ?_⟩
    rcases Nat.eq_zero_or_pos l.length with h0 | h0
    · rw [List.eq_nil_of_length_eq_zero h0] at hu; simp at hu
    · obtain ⟨ad', hA, h3⟩ := h2 h0
      cases hA
      exact h3 j u hu

theorem run_append_nil {P : Program} {w : World} {t ty e : TypeId} {i : TypeInfo} (ht : P.underlying t = some (.slice e)) (hi : P.info? e = some i) (v : Value) (n : Nat) (xs : List Value) (size : Nat)
    (hown : w.ownsRow 0 e size v n xs) (c : Nat) : (Builtin.append_ #[t, t] ty #[v, .slice none 0 c]).run P w = .ok v w := by
  rcases hown.2 with ⟨rfl, rfl⟩ | ⟨g, cap, cur, rfl, _, _, hnc, _⟩
  · simp [Builtin.append_, run_underlying ht, sizeOf, typeInfo, hi, Builtin.lenOf, Builtin.firstCells]
  · simp [Builtin.append_, run_underlying ht, sizeOf, typeInfo, hi, Builtin.lenOf, Builtin.firstCells, hnc, storeCells]

theorem append_run {P : Program} {w : World} {t ty e : TypeId} {z : Value} {by_ : Nat} (ht : P.underlying t = some (.slice e)) (hz : (P.info? e).bind (·.zero) = some z) (hb : bytesT P e = some by_) (hs : sizeT P e = some (szE T e))
    (h0 : szE T e ≠ 0) (hzs : z.cells.size = szE T e) {v x : Value} {l news : List (T.El e)} (hown : w.ownsRow 0 e (szE T e) v l.length (l.flatMap (T.enc e).enc)) (hx : Src w e x news) (hroom : room (l.length + news.length) by_) :
    ∃ v' w', (Builtin.append_ #[t, t] ty #[v, x]).run P w = .ok v' w' ∧ w'.ownsRow 0 e (szE T e) v' (l ++ news).length ((l ++ news).flatMap (T.enc e).enc) ∧ w.grownBy w' v.ownBlock ∧ (v'.ownBlock = v.ownBlock ∨ v'.ownBlock = some w.heap.size) := by
  cases hi : P.info? e with
  | none => rw [hi] at hz; cases hz
  | some i =>
    rw [hi] at hz
    simp only [Option.bind_some] at hz
    have hby : i.bytes = by_ := by unfold bytesT at hb; rw [hi] at hb; simpa using hb
    have hsz : i.size = szE T e := by unfold sizeT at hs; rw [hi] at hs; simpa using hs
    rcases src_cases hx with ⟨c, rfl, rfl⟩ | ⟨ad, c, rfl, hc⟩
    · refine ⟨v, w, run_append_nil ht hi v _ _ _ hown c, by simpa using hown, ⟨rfl, rfl, rfl, Nat.le_refl _, fun _ _ _ => rfl⟩, .inl rfl⟩
    · obtain ⟨v', w', h1, h2, h3, _, h5⟩ := run_append_own_at (P := P) w 0 t ty e i z (szE T e) by_ ht hi hz hsz hby hzs (by omega) v l.length _ hown ad news.length c (news.flatMap (T.enc e).enc) (enc_flat_length e news) hc
        (fun u hu => by
          simp only [List.mem_flatMap] at hu
          obtain ⟨y, _, hy⟩ := hu
          exact (T.enc e).one y u hy) (by have := hroom.1; simp only [maxLen]; omega) hroom.2 (Nat.zero_le _)
      refine ⟨v', w', h1, ?_, h3, h5⟩
      rw [List.length_append, List.flatMap_append]
      exact h2

theorem own_slice {w : World} {e : TypeId} {x : Value} {n sz : Nat} {xs : List Value} (h : w.ownsRow 0 e sz x n xs) : ∃ A cap, x = .slice A n cap := by
  rcases h.2 with ⟨rfl, rfl⟩ | ⟨g, cap, cur, rfl, _⟩
  · exact ⟨_, _, rfl⟩
  · exact ⟨_, _, rfl⟩

theorem own_lt {w : World} {e : TypeId} {x : Value} {n sz : Nat} {xs : List Value} (h : w.ownsRow 0 e sz x n xs) {k : Nat} (hk : x.ownBlock = some k) : k < w.heap.size := by
  rcases h.2 with ⟨rfl, rfl⟩ | ⟨g, cap, cur, rfl, _, hh, _⟩
  · cases hk
  · simp only [Value.ownBlock, Option.some.injEq] at hk; subst hk
    rcases Nat.lt_or_ge g w.heap.size with h0 | h0
    · exact h0
    · rw [Array.getElem?_eq_none h0] at hh; cases hh

/-- The first part of a row of the call's own. -/
theorem own_prefix {w : World} {e : TypeId} {x : Value} {l : List (T.El e)} {hi : Nat} (h : w.ownsRow 0 e (szE T e) x l.length (l.flatMap (T.enc e).enc)) (hle : hi ≤ l.length) :
    w.ownsRow 0 e (szE T e) (sliceVal x 0 hi (szE T e)) (l.take hi).length ((l.take hi).flatMap (T.enc e).enc) := by
  have hlen : (l.take hi).length = hi := by simp; omega
  refine ⟨enc_flat_length e _, ?_⟩
  rcases h.2 with ⟨rfl, h0⟩ | ⟨g, cap, cur, rfl, _, hh, hn, hm, hs, ht⟩
  · have : hi = 0 := by omega
    subst this
    exact .inl ⟨rfl, by simp⟩
  · refine .inr ⟨g, cap, cur, ?_, Nat.zero_le _, hh, by omega, hm, hs, ?_⟩
    · simp only [sliceVal, hlen, Nat.sub_zero, Nat.zero_mul]
      congr 1
      split <;> simp [Addr.add]
    · have := congrArg (List.take (hi * szE T e)) ht
      rw [List.take_take] at this
      have hmul : hi * szE T e ≤ l.length * szE T e := Nat.mul_le_mul_right _ hle
      rw [hlen, ← Nat.min_eq_left hmul, this, flat_take]
where
  flat_take {e : TypeId} {l : List (T.El e)} {n : Nat} : (l.flatMap (T.enc e).enc).take (n * szE T e) = (l.take n).flatMap (T.enc e).enc := by
    induction n generalizing l with
    | zero => simp
    | succ n ih =>
      cases l with
      | nil => simp
      | cons x r =>
        have hx : ((T.enc e).enc x).length = szE T e := (T.enc e).len x
        simp only [List.take_succ_cons, List.flatMap_cons]
        rw [← ih, Nat.succ_mul, Nat.add_comm, ← hx, List.take_length_add_append]

theorem grown_stp {C : Ctx T} {S : St T} {w w' : World} (hH : HOK C S.H w) {h : Nat} {x x' : Value} {e : TypeId} {l l' : List (T.El e)} (he : S.ent h = .O x e l) {v : Value} (hv : v.ownBlock = x.ownBlock ∨ v.ownBlock = none) (hg : w.grownBy w' v.ownBlock)
    (hown : w'.ownsRow 0 e (szE T e) x' l'.length (l'.flatMap (T.enc e).enc)) (hb : x'.ownBlock = v.ownBlock ∨ x'.ownBlock = some w.heap.size) :
    HOK C (S.setEnt h (.O x' e l')).H w' ∧ Stp (Owns S.H) (Owns (S.setEnt h (.O x' e l')).H) w w' := by
  have hn' := ent_get he (by intro h; cases h)
  refine hH.put h _ _ hn' hg.os hg.tape hg.output hg.size (fun k hk hne => hg.block k hk (fun h' => hne (by
    rcases hv with h1 | h1
    · rw [Ent.has, ← h1, ← h']
    · rw [h1] at h'; cases h'))) (fun k hk => ⟨?_, own_lt hown hk⟩) (fun I s => hown)
  rcases hb with h1 | h1
  · rcases hv with h2 | h2
    · left; rw [Ent.has, ← h2, ← h1]; exact hk
    · rw [Ent.has, h1, h2] at hk; cases hk
  · right
    rw [Ent.has, h1] at hk
    simp only [Option.some.injEq] at hk
    omega

theorem appendK_ok {C : Ctx T} {o : Oper} {S : St T} {t ty : TypeId} {dst src : SV T} {next : St T → VCT} {a : Act} {w : World} (hS : FrOK S a (Owns S.H) w) (hH : HOK C S.H w) (hd : dst.valid (Owns S.H) w) (hs : src.valid (Owns S.H) w)
    (h : (appendK C o S t dst src next).den) : ∃ S' v w', (next S').den ∧ (Builtin.append_ #[t, t] ty #[dst.toV, src.toV]).run C.P w = .ok v w' ∧ Leads C S S' o a (a.put o.dst v) w w' := by
  unfold appendK at h
  split at h
  · rename_i e ht
    split at h
    · rename_i z by_ sz hz hb hsz
      split at h
      · rename_i hc
        obtain ⟨hc1, hc2, hc3⟩ := hc
        subst hc1
        split at h
        · obtain ⟨news, h, hsrc⟩ := srcK_ok hH hs h
          obtain ⟨hroom, h⟩ := h
          have hown0 : w.ownsRow 0 e (szE T e) (.slice none 0 0) ([] : List (T.El e)).length (([] : List (T.El e)).flatMap (T.enc e).enc) := ⟨by simp, .inl ⟨rfl, rfl⟩⟩
          obtain ⟨v', w', h1, h2, h3, h4⟩ := append_run (T := T) (ty := ty) ht hz hb hsz hc2 hc3 hown0 hsrc (by simpa using hroom)
          have h := h v'
          simp only [List.nil_append] at h2
          obtain ⟨hH', hst⟩ := hH.push (.O v' e news) h3.os h3.tape h3.output h3.size (fun k hk => h3.block k hk (by simp [Value.ownBlock])) (fun k hk => by
            refine ⟨?_, own_lt h2 hk⟩
            rcases h4 with h5 | h5
            · rw [Ent.has, h5] at hk; simp [Value.ownBlock] at hk
            · rw [Ent.has, h5] at hk; simp only [Option.some.injEq] at hk; omega) (fun I s => h2)
          exact ⟨_, v', w', h, h1, leads_put (x := .o S.H.length e v' news.length) hS (S1 := S.push (.O v' e news)) rfl hH' hst (own_slice h2)⟩
        · rename_i hh e' x n
          split at h
          · rename_i x' e2 l he
            have hok := ent_ok hH hh
            rw [he] at hok
            split at h
            · rename_i hee
              subst hee
              obtain ⟨⟨rfl, hn⟩, h⟩ := h
              obtain ⟨news, h, hsrc⟩ := srcK_ok hH hs h
              obtain ⟨hroom, h⟩ := h
              obtain ⟨v', w', h1, h2, h3, h4⟩ := append_run (T := T) (ty := ty) ht hz hb hsz hc2 hc3 hok hsrc hroom
              have h := h v'
              obtain ⟨hH', hst⟩ := grown_stp hH he (.inl rfl) h3 h2 h4
              have h5 := own_slice h2
              rw [List.length_append, ← hn] at h5
              exact ⟨_, v', w', h, h1, leads_put (x := .o hh _ v' (n + news.length)) hS (S1 := S.setEnt hh (.O v' _ (l ++ news))) rfl hH' hst h5⟩
            · exact h.elim
          · exact h.elim
        · rename_i hh e' x hi
          split at h
          · rename_i x' e2 l he
            have hok := ent_ok hH hh
            rw [he] at hok
            split at h
            · rename_i hee
              subst hee
              split at h
              case isFalse => exact h.elim
              rename_i hee2
              subst hee2
              obtain ⟨⟨rfl, hn⟩, h⟩ := h
              obtain ⟨news, h, hsrc⟩ := srcK_ok hH hs h
              obtain ⟨hroom, h⟩ := h
              have hlen : (l.take hi).length = hi := by simp; omega
              obtain ⟨v', w', h1, h2, h3, h4⟩ := append_run (T := T) (ty := ty) ht hz hb hsz hc2 hc3 (own_prefix hok hn) hsrc (by rw [hlen]; exact hroom)
              have h := h v'
              have hblk : (sliceVal x 0 hi (szE T e')).ownBlock = x.ownBlock ∨ (sliceVal x 0 hi (szE T e')).ownBlock = none := by
                rcases hok.2 with ⟨rfl, _⟩ | ⟨g, cap, cur, rfl, _⟩
                · exact .inl rfl
                · left; simp only [sliceVal]; split <;> simp [Value.ownBlock, Addr.add]
              obtain ⟨hH', hst⟩ := grown_stp hH he hblk h3 h2 h4
              have h5 := own_slice h2
              rw [List.length_append, hlen] at h5
              exact ⟨_, v', w', h, h1, leads_put (x := .o hh _ v' (hi + news.length)) hS (S1 := S.setEnt hh (.O v' _ (l.take hi ++ news))) rfl hH' hst h5⟩
            · exact h.elim
          · exact h.elim
        · exact h.elim
      · exact h.elim
    · exact h.elim
  · exact h.elim
end Go.Vg
