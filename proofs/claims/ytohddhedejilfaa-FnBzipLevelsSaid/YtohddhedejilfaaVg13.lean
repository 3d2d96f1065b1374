/-
  The generator's soundness, part 10: copy, made rows, literals of slices; all operations.
-/
import Derived.Test.YtohddhedejilfaaVg12
set_option linter.unusedVariables false
namespace Go.Vg
variable {T : Tys}

theorem flat_take {e : TypeId} {l : List (T.El e)} {n : Nat} : (l.flatMap (T.enc e).enc).take (n * szE T e) = (l.take n).flatMap (T.enc e).enc := own_prefix.flat_take

theorem copy_flat {e : TypeId} (l ns : List (T.El e)) (lo : Nat) (h : lo + ns.length ≤ l.length) :
    (l.take lo ++ ns ++ l.drop (lo + ns.length)).flatMap (T.enc e).enc = splice (l.flatMap (T.enc e).enc) (lo * szE T e) (ns.flatMap (T.enc e).enc) := by
  unfold splice
  rw [List.flatMap_append, List.flatMap_append, ← flat_take, take_drop_flat, enc_flat_length, Nat.add_mul]

theorem setEnt_same {S : St T} {h : Nat} {e : Ent T} (he : S.ent h = e) (hx : e ≠ .X) : (S.setEnt h e).H = S.H := by
  have := ent_get he hx
  show S.H.set h e = S.H
  apply List.ext_getElem?
  intro i
  rw [List.getElem?_set]
  split
  · rename_i h0; subst h0
    split
    · exact this.symm
    · rename_i h1; rw [List.getElem?_eq_none (by omega)] at this; cases this
  · rfl

theorem firstCells_src {P : Program} {w : World} {e : TypeId} {v : Value} {news : List (T.El e)} (h : Src w e v news) (n : Nat) (hn : n ≤ news.length) :
    (Builtin.lenOf v).run P w = .ok news.length w ∧ (Builtin.firstCells (szE T e) n v).run P w = .ok ((news.take n).flatMap (T.enc e).enc).toArray w := by
  rcases src_cases h with ⟨c, rfl, rfl⟩ | ⟨ad, c, rfl, hc⟩
  · exact ⟨rfl, by simp [Builtin.firstCells]⟩
  · refine ⟨rfl, ?_⟩
    have := run_loadCells_list (P := P) w ad ((news.take n).flatMap (T.enc e).enc) (fun j u hu => hc j u (flat_prefix _ _ _ _ hu))
    rw [enc_flat_length] at this
    simp only [List.length_take, Nat.min_eq_left hn] at this
    exact this

theorem copy_run_some {P : Program} {w : World} {t ty e : TypeId} {v : Value} {news : List (T.El e)} {g o dlen cap : Nat} {cs : List Value} {bt : TypeId} (ht : P.underlying t = some (.slice e)) (hs : sizeT P e = some (szE T e)) (h : Src w e v news)
    (hb : w.heap[g]? = some (.cells cs.toArray bt (0, 0))) (hle : o + min news.length dlen * szE T e ≤ cs.length) :
    (Builtin.copy_ #[t, t] ty #[.slice (some ⟨g, o, none⟩) dlen cap, v]).run P w = .ok (.int .i64 (min news.length dlen : Nat)) (setBlk w g (splice cs o ((news.take (min news.length dlen)).flatMap (T.enc e).enc)) bt) := by
  obtain ⟨hl1, hl2⟩ := firstCells_src (P := P) h (min news.length dlen) (Nat.min_le_left _ _)
  have hst := storeCells_ok (P := P) (b := g) (o := o) ((news.take (min news.length dlen)).flatMap (T.enc e).enc) 0 w cs hb (fun u hu => by
    simp only [List.mem_flatMap] at hu
    obtain ⟨y, _, hy⟩ := hu
    exact (T.enc e).one y u hy) (by rw [enc_flat_length]; simp only [List.length_take]; rw [Nat.min_eq_left (Nat.min_le_left _ _)]; omega)
  unfold Builtin.copy_
  have hm : Nat.min news.length dlen = min news.length dlen := rfl
  simp only [Nat.add_zero] at hst
  simp [run_underlying ht, hl1, sizeT_run hs, hm, hl2, hst, goInt]

theorem copy_run_none {P : Program} {w : World} {t ty e : TypeId} {v : Value} {news : List (T.El e)} {cap : Nat} (ht : P.underlying t = some (.slice e)) (hs : sizeT P e = some (szE T e)) (h : Src w e v news) :
    (Builtin.copy_ #[t, t] ty #[.slice none 0 cap, v]).run P w = .ok (.int .i64 0) w := by
  obtain ⟨hl1, hl2⟩ := firstCells_src (P := P) h 0 (Nat.zero_le _)
  unfold Builtin.copy_
  simp [run_underlying ht, hl1, sizeT_run hs, hl2, goInt]

theorem copyK_ok {C : Ctx T} {o : Oper} {S : St T} {t ty : TypeId} {dst src : SV T} {next : St T → VCT} {a : Act} {w : World} (hS : FrOK S a (Owns S.H) w) (hH : HOK C S.H w) (hd : dst.valid (Owns S.H) w) (hs : src.valid (Owns S.H) w)
    (h : (copyK C o S t dst src next).den) : ∃ S' v w', (next S').den ∧ (Builtin.copy_ #[t, t] ty #[dst.toV, src.toV]).run C.P w = .ok v w' ∧ Leads C S S' o a (a.put o.dst v) w w' := by
  unfold copyK at h
  split at h
  · rename_i e ht
    split at h
    · rename_i hsz
      split at h
      · rename_i hh b e' base lo len cap
        split at h
        · rename_i b' tyb segs he
          have hok := ent_ok hH hh
          rw [he] at hok
          split at h
          · rename_i e2 kk l hr
            split at h
            · rename_i hee
              subst hee
              split at h
              case isFalse => exact h.elim
              rename_i hee2
              subst hee2
              obtain ⟨news, h, hsrc⟩ := srcK_ok hH hs h
              simp only at h
              split at h
              · rename_i segs' hsr
                obtain ⟨⟨rfl, hle⟩, h⟩ := h
                have hns : (news.take (min news.length len)).length = min news.length len := by rw [List.length_take]; omega
                obtain ⟨p, q, rfl, rfl, hp, _⟩ := setR_ok _ _ _ _ _ _ _ _ _ hok.2 hr hsr
                have hcp := copy_flat l (news.take (min news.length len)) lo (by rw [hns]; omega)
                rw [hns] at hcp
                have hfl := enc_flat_length e' l
                have hvl : ((news.take (min news.length len)).flatMap (T.enc e').enc).length = min news.length len * szE T e' := by rw [enc_flat_length, hns]
                have hmul : (lo + min news.length len) * szE T e' ≤ l.length * szE T e' := Nat.mul_le_mul_right _ (by omega)
                rw [Nat.add_mul] at hmul
                obtain ⟨k1, k2, k3⟩ := row_put hH he (l' := l.take lo ++ news.take (min news.length len) ++ l.drop (lo + min news.length len)) (by simp; omega) hcp (by rw [hvl, hfl]; omega)
                obtain ⟨hH', hst⟩ := block_step hH he k2
                refine ⟨_, _, _, h, ?_, leads_put (x := .v (.int .i64 (min news.length len : Nat))) hS (S1 := S.setEnt hh (.B b tyb _)) rfl hH' hst rfl⟩
                have hrun := copy_run_some (ty := ty) (g := b) (o := base + lo * szE T e') (dlen := len) (cap := cap) ht hsz hsrc hok.1 (by rw [hvl] at k3; omega)
                rw [← hp, k1] at hrun
                rw [hp] at hrun
                exact hrun
              · exact h.elim
            · exact h.elim
          · exact h.elim
        · exact h.elim
      · rename_i hh e' x k
        split at h
        · rename_i x' e2 l he
          have hok := ent_ok hH hh
          rw [he] at hok
          split at h
          · rename_i hee
            subst hee
            obtain ⟨⟨rfl, hk⟩, h⟩ := h
            obtain ⟨news, h, hsrc⟩ := srcK_ok hH hs h
            have hns : (news.take (min news.length k)).length = min news.length k := by rw [List.length_take]; omega
            have hcp := copy_flat l (news.take (min news.length k)) 0 (by rw [hns, hk]; omega)
            rw [hns, List.take_zero, List.nil_append, Nat.zero_mul, Nat.zero_add] at hcp
            rcases Nat.eq_zero_or_pos l.length with h0 | h0
            · have hl : l = [] := List.eq_nil_of_length_eq_zero h0
              subst hl
              have hk0 : k = 0 := hk
              subst hk0
              have hsame : (S.setEnt hh (.O x e2 (news.take (min news.length 0) ++ ([] : List (T.El e2)).drop (min news.length 0)))).H = S.H := by
                have : (news.take (min news.length 0) ++ ([] : List (T.El e2)).drop (min news.length 0)) = [] := by simp
                rw [this]; exact setEnt_same he (by intro h; cases h)
              rcases hok.2 with ⟨rfl, _⟩ | ⟨g, cap, cur, rfl, _, hg, hn, hm, hs', ht'⟩
              · refine ⟨_, _, w, h, ?_, leads_put (x := .v (.int .i64 (min news.length 0 : Nat))) hS (S1 := S.setEnt hh _) rfl (by rw [hsame]; exact hH) (by rw [hsame]; exact Stp.refl _ _) rfl⟩
                have := copy_run_none (ty := ty) (cap := 0) ht hsz hsrc
                show _ = Result.ok (Value.int .i64 ((min news.length 0 : Nat) : Int)) w
                rw [Nat.min_zero]
                exact this
              · refine ⟨_, _, w, h, ?_, leads_put (x := .v (.int .i64 (min news.length 0 : Nat))) hS (S1 := S.setEnt hh _) rfl (by rw [hsame]; exact hH) (by rw [hsame]; exact Stp.refl _ _) rfl⟩
                have hg' : w.heap[g]? = some (.cells cur.toList.toArray e2 (0, 0)) := by simpa using hg
                have := copy_run_some (ty := ty) (g := g) (o := 0) (dlen := 0) (cap := cap) ht hsz hsrc hg' (by simp)
                have hsp : splice cur.toList 0 ((news.take (min news.length 0)).flatMap (T.enc e2).enc) = cur.toList := by simp [splice]
                rw [hsp, setBlk_same hg'] at this
                exact this
            · have hfl := enc_flat_length e2 l
              have hvl : ((news.take (min news.length k)).flatMap (T.enc e2).enc).length = min news.length k * szE T e2 := by rw [enc_flat_length, hns]
              have hmul : min news.length k * szE T e2 ≤ l.length * szE T e2 := Nat.mul_le_mul_right _ (by omega)
              obtain ⟨g, cap, cur, rfl, hg, hle, hH', hst⟩ := own_put hH he h0 (l' := news.take (min news.length k) ++ l.drop (min news.length k)) (by simp; omega) hcp (by rw [hvl, hfl]; omega)
              refine ⟨_, _, _, h, ?_, leads_put (x := .v (.int .i64 (min news.length k : Nat))) hS (S1 := S.setEnt hh _) rfl hH' hst rfl⟩
              have := copy_run_some (ty := ty) (g := g) (o := 0) (dlen := k) (cap := cap) ht hsz hsrc hg (by rw [hvl] at hle; exact hle)
              rw [hk] at this ⊢
              exact this
          · exact h.elim
        · exact h.elim
      · obtain ⟨news, h, hsrc⟩ := srcK_ok (e := e) hH hs h
        refine ⟨_, _, w, h, copy_run_none ht hsz hsrc, leads_put (x := .v (.int .i64 0)) hS (S1 := S) rfl hH (Stp.refl _ _) rfl⟩
      · exact h.elim
    · exact h.elim
  · exact h.elim

theorem madeCells_flat (z : Array Value) (hz : 0 < z.size) (c : Nat) : (madeCells z (c * z.size)).toList = (List.replicate c z.toList).flatten := by
  induction c with
  | zero => simp [madeCells]
  | succ c ih =>
    rw [List.replicate_succ', List.flatten_append, ← ih]
    simp only [madeCells, Array.toList_map, Array.toList_range, Nat.succ_mul, List.range_add, List.map_append, List.map_map]
    congr 1
    simp only [List.flatten_cons, List.flatten_nil, List.append_nil]
    apply List.ext_getElem?
    intro j
    simp only [List.getElem?_map]
    rcases Nat.lt_or_ge j z.size with h0 | h0
    · have : (c * z.size + j) % z.size = j := by rw [Nat.mul_comm, Nat.mul_add_mod, Nat.mod_eq_of_lt h0]
      simp [h0, this]
    · rw [List.getElem?_eq_none (by simpa using h0), List.getElem?_eq_none (by simpa using h0)]; rfl

theorem flat_replicate {e : TypeId} (n : Nat) (u : T.El e) : (List.replicate n u).flatMap (T.enc e).enc = (List.replicate n ((T.enc e).enc u)).flatten := by
  induction n with
  | zero => simp
  | succ n ih => simp [List.replicate_succ, ih]
end Go.Vg
