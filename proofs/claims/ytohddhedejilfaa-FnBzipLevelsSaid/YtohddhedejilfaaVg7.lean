/-
  The generator's soundness, part 4: indexes, slices, assertions, literals.
-/
import Derived.Test.YtohddhedejilfaaVg6
set_option linter.unusedVariables false
namespace Go.Vg
variable {T : Tys}

theorem indexAt_arr {P : Program} {w : World} {t e len sz : Nat} {k : IntKind} {n : Int} {a : Addr} (hd : P.underlying t = some (.array len e)) (hs : sizeT P e = some sz) (hn : inRange n len) :
    (Instr.indexAt t (.pointer (some a)) (.int k n)).run P w = .ok (.pointer (some (a.add (n.toNat * sz)))) w := by
  unfold Instr.indexAt
  simp only [Sem.run_bind, asIntOf, Sem.run_pure, Result.andThen_ok, run_underlying hd, Instr.sureAddr]
  simp only [Sem.run_bind, Sem.run_pure, Result.andThen_ok, Sem.run_ite, sizeT_run hs]
  rw [if_pos (show 0 ≤ n ∧ n < (len : Int) from hn)]
theorem indexAt_slice {P : Program} {w : World} {t e len cap sz : Nat} {k : IntKind} {n : Int} {a : Addr} (hd : P.underlying t = some (.slice e)) (hs : sizeT P e = some sz) (hn : inRange n len) :
    (Instr.indexAt t (.slice (some a) len cap) (.int k n)).run P w = .ok (.pointer (some (a.add (n.toNat * sz)))) w := by
  unfold Instr.indexAt
  simp only [Sem.run_bind, asIntOf, Sem.run_pure, Result.andThen_ok, run_underlying hd]
  simp only [Sem.run_bind, Sem.run_pure, Result.andThen_ok, Sem.run_ite, sizeT_run hs]
  rw [if_pos (show 0 ≤ n ∧ n < (len : Int) from hn)]

theorem idxInt_ok {S : St T} {a : Act} {I : Nat → Prop} {w : World} (hS : FrOK S a I w) {x : Operand} {n : Int} (h : idxInt S x = some n) : ∃ k, a.eval x = .int k n := by
  unfold idxInt at h
  split at h
  · rename_i k m hx
    simp only [Option.some.injEq] at h; subst h
    exact ⟨k, (ev_ok hS hx).1⟩
  · cases h

theorem idxAddr_ok {C : Ctx T} {t : TypeId} {S : St T} {x : SV T} {n : Int} {c : SV T → VCT} {w : World} {k : IntKind} (hH : HOK C S.H w) (hx : x.valid (Owns S.H) w) (h : (idxAddr C t S x n c).den) :
    ∃ y, (c y).den ∧ y.valid (Owns S.H) w ∧ (Instr.indexAt t x.toV (.int k n)).run C.P w = .ok y.toV w := by
  unfold idxAddr at h
  split at h
  · split at h
    · rename_i hh b o _ len e hd
      split at h
      · rename_i sz hs
        split at h
        · split at h
          · rename_i e' kk l hr
            split at h
            · rename_i hsz
              obtain ⟨hn, h⟩ := h
              refine ⟨_, h, trivial, ?_⟩
              simp only [SV.toV]
              rw [indexAt_arr hd hs hn, add_block]
              simp [Off.val]
            · exact h.elim
          · split at h
            · exact h.elim
            · obtain ⟨hn, h⟩ := h
              refine ⟨_, h, trivial, ?_⟩
              simp only [SV.toV]
              rw [indexAt_arr hd hs hn, add_block]
              simp [Off.val]
        · exact h.elim
      · exact h.elim
    · exact h.elim
  · split at h
    · rename_i hh b e base lo len cap _ e' hd
      split at h
      · rename_i hsz
        obtain ⟨hn, h⟩ := h
        refine ⟨_, h, trivial, ?_⟩
        simp only [SV.toV]
        rw [indexAt_slice hd hsz.1 hn, add_block]
        simp only [Off.val, szE, Nat.add_mul, Nat.add_zero, Nat.add_assoc]
      · exact h.elim
    · exact h.elim
  · split at h
    · rename_i hh e v kk _ e' hd
      split at h
      · rename_i hsz
        split at h
        · rename_i v' e2 l he
          have hok := ent_ok hH hh
          rw [he] at hok
          split at h
          · rename_i hee
            subst hee
            obtain ⟨rfl, hn, h⟩ := h
            obtain ⟨g, cap, rfl, _, _, _⟩ := own_cells hok (by have := hn.1; have := hn.2; omega)
            refine ⟨_, h, trivial, ?_⟩
            simp only [SV.toV]
            rw [indexAt_slice hd hsz.1 hn]
            simp [addrOf, szE]
          · exact h.elim
        · exact h.elim
      · exact h.elim
    · exact h.elim
  · split at h
    · rename_i hh e v lo hi _ e' hd
      split at h
      · rename_i hsz
        split at h
        · rename_i v' e2 l he
          have hok := ent_ok hH hh
          rw [he] at hok
          split at h
          · rename_i hee
            subst hee
            obtain ⟨rfl, ⟨hn, hi2⟩, h⟩ := h
            obtain ⟨g, cap, rfl, hlc, _, _⟩ := own_cells hok (by have := hn.1; have := hn.2; omega)
            refine ⟨_, h, trivial, ?_⟩
            simp only [SV.toV, sliceVal]
            rw [if_neg (by have := hn.1; have := hn.2; omega)]
            simp only [Option.map_some]
            rw [indexAt_slice hd hsz.1 hn, addr_add_add]
            simp [addrOf, szE, Nat.add_mul]
          · exact h.elim
        · exact h.elim
      · exact h.elim
    · exact h.elim
  · split at h
    · rename_i e v l _ e' hd
      split at h
      · rename_i hsz
        obtain ⟨hn, h⟩ := h
        obtain ⟨A, cap, hv, h1, h2, hro⟩ := hx
        subst hv
        obtain ⟨ad, rfl, hro2⟩ := hro (by have := hn.1; have := hn.2; omega)
        refine ⟨_, h, ⟨_, cap, rfl, h1, h2, fun _ => ⟨ad, rfl, hro2⟩⟩, ?_⟩
        simp only [SV.toV]
        rw [indexAt_slice hd hsz.1 hn]
        simp [addrOf, szE]
      · exact h.elim
    · exact h.elim
  · exact h.elim

theorem bound_ok {P : Program} {S : St T} {a : Act} {I : Nat → Prop} {w : World} (hS : FrOK S a I w) {x : Option Operand} {d n : Int} (h : bound S x d = some n) :
    (x = none ∧ n = d) ∨ ∃ y k, x = some y ∧ a.eval y = .int k n := by
  unfold bound at h
  split at h
  · simp only [Option.some.injEq] at h; exact .inl ⟨rfl, h.symm⟩
  · obtain ⟨k, hk⟩ := idxInt_ok hS h
    exact .inr ⟨_, k, rfl, hk⟩

theorem sliceBound_ok {P : Program} {w : World} {k : IntKind} {n : Int} {y : Nat} {code : BoundsCode} (h : 0 ≤ n ∧ n ≤ y) : (Instr.sliceBound (.int k n) y code).run P w = .ok n.toNat w := by
  unfold Instr.sliceBound
  simp only [Sem.run_bind, asIntOf, Sem.run_pure, Result.andThen_ok, Sem.run_ite]
  rw [if_pos h]

theorem sliceBounds_ok {P : Program} {S : St T} {a : Act} {I : Nat → Prop} {w : World} (hS : FrOK S a I w) {isSlice : Bool} {len cap : Nat} {lo hi : Option Operand} {l u : Int} (hl : bound S lo 0 = some l) (hu : bound S hi len = some u)
    (h0 : 0 ≤ l) (h1 : l ≤ u) (h2 : u ≤ cap) : (Instr.sliceBounds isSlice len cap (lo.map a.eval) (hi.map a.eval) none).run P w = .ok (l.toNat, u.toNat, cap) w := by
  unfold Instr.sliceBounds
  simp only [Sem.run_bind, Sem.run_pure, Result.andThen_ok, Option.isSome_none, Bool.false_eq_true, if_false]
  rcases bound_ok (P := P) hS hu with ⟨rfl, rfl⟩ | ⟨y, k, rfl, hy⟩
  · rcases bound_ok (P := P) hS hl with ⟨rfl, rfl⟩ | ⟨z, k', rfl, hz⟩
    · simp
    · simp only [Option.map_some, Option.map_none, hz, Sem.run_bind, Sem.run_pure, Result.andThen_ok, sliceBound_ok (k := k') (code := .sliceB) (y := len) ⟨h0, h1⟩]
      simp
  · have h3 : ∀ code, (Instr.sliceBound (.int k u) cap code).run P w = .ok u.toNat w := fun code => sliceBound_ok ⟨by omega, h2⟩
    rcases bound_ok (P := P) hS hl with ⟨rfl, rfl⟩ | ⟨z, k', rfl, hz⟩
    · simp only [Option.map_some, Option.map_none, hy, Sem.run_bind, Sem.run_pure, Result.andThen_ok, h3]
      simp
    · have h4 : ∀ code, (Instr.sliceBound (.int k' l) u.toNat code).run P w = .ok l.toNat w := fun code => sliceBound_ok ⟨h0, by omega⟩
      simp only [Option.map_some, hy, hz, Sem.run_bind, Sem.run_pure, Result.andThen_ok, h3, h4]

theorem take_drop_flat (e : TypeId) (l : List (T.El e)) (n : Nat) : (l.drop n).flatMap (T.enc e).enc = (l.flatMap (T.enc e).enc).drop (n * szE T e) := by
  induction n generalizing l with
  | zero => simp
  | succ n ih =>
    cases l with
    | nil => simp
    | cons x r =>
      have hx : ((T.enc e).enc x).length = szE T e := (T.enc e).len x
      simp only [List.drop_succ_cons, List.flatMap_cons]
      rw [ih r, Nat.succ_mul, Nat.add_comm, List.drop_append_of_le_length' hx]
where
  List.drop_append_of_le_length' {α : Type} {a b : List α} {n m : Nat} (h : a.length = n) : (a ++ b).drop (n + m) = b.drop m := by subst h; simp

theorem flat_prefix (e : TypeId) (l : List (T.El e)) (n j : Nat) {v : Value} (h : ((l.take n).flatMap (T.enc e).enc)[j]? = some v) : (l.flatMap (T.enc e).enc)[j]? = some v := by
  have : l.flatMap (T.enc e).enc = (l.take n).flatMap (T.enc e).enc ++ (l.drop n).flatMap (T.enc e).enc := by rw [← List.flatMap_append, List.take_append_drop]
  rw [this, List.getElem?_append_left]
  · exact h
  · rcases Nat.lt_or_ge j ((l.take n).flatMap (T.enc e).enc).length with h0 | h0
    · exact h0
    · rw [List.getElem?_eq_none h0] at h; cases h

theorem slicing_ok {C : Ctx T} {t : TypeId} {S : St T} {x : SV T} {lo hi mx : Option Operand} {c : SV T → VCT} {a : Act} {w : World} (hS : FrOK S a (Owns S.H) w) (hH : HOK C S.H w) (hx : x.valid (Owns S.H) w)
    (h : (slicing C t S x lo hi mx c).den) : ∃ y, (c y).den ∧ y.valid (Owns S.H) w ∧ (Instr.sliceAt t x.toV (lo.map a.eval) (hi.map a.eval) (mx.map a.eval)).run C.P w = .ok y.toV w := by
  unfold slicing at h
  split at h
  · exact h.elim
  rename_i hmx
  have hmx : mx = none := by cases mx <;> simp_all
  subst hmx
  split at h
  · rename_i hh b o
    split at h
    · rename_i n e hd
      split at h
      · split at h
        · rename_i e' kk l0 hr
          split at h
          · rename_i hsz
            split at h
            · rename_i l u hl hu
              obtain ⟨⟨h0, h1, h2, h3⟩, h⟩ := h
              refine ⟨_, h, trivial, ?_⟩
              unfold Instr.sliceAt
              simp only [Sem.run_bind, run_underlying hd, Result.andThen_ok, SV.toV, Instr.sureAddr, Sem.run_pure, Option.map_none]
              rw [sliceBounds_ok hS hl hu h0 h1 h2]
              simp only [Result.andThen_ok, sizeT_run hsz]
              congr 2
              split
              · rename_i hz
                have : l = 0 := by omega
                subst this
                simp [Off.val]
              · rw [add_block]; simp [Off.val, szE]
            · exact h.elim
          · exact h.elim
        · exact h.elim
      · exact h.elim
    · exact h.elim
  · rename_i hh b e base k len cap
    split at h
    · rename_i e' hd
      split at h
      · rename_i hsz
        split at h
        · rename_i l u hl hu
          obtain ⟨⟨h0, h1, h2, h3⟩, h⟩ := h
          refine ⟨_, h, trivial, ?_⟩
          unfold Instr.sliceAt Instr.slice
          simp only [Sem.run_bind, run_underlying hd, Result.andThen_ok, SV.toV, Option.map_none]
          rw [sliceBounds_ok hS hl hu h0 h1 h2]
          simp only [Result.andThen_ok, sizeT_run hsz, Sem.run_pure]
          congr 2
          split
          · rename_i hz
            have : l = 0 := by omega
            subst this
            simp
          · simp only [Option.map_some]; rw [add_block]; simp [szE, Nat.add_mul, Nat.add_assoc]
        · exact h.elim
      · exact h.elim
    · exact h.elim
  · rename_i hh e v k
    split at h
    · rename_i e' hd
      split at h
      · rename_i hsz
        split at h
        · rename_i v' e2 xs he
          have hok := ent_ok hH hh
          rw [he] at hok
          split at h
          · rename_i hee
            subst hee
            split at h
            · rename_i l u hl hu
              obtain ⟨rfl, ⟨hk, h0, h1, h2⟩, h⟩ := h
              refine ⟨_, h, ?_, ?_⟩
              · obtain ⟨A, cap, hA⟩ := hx; exact ⟨A, _, cap, hA⟩
              · obtain ⟨hlen, hv⟩ := hok
                rcases hv with ⟨rfl, hz⟩ | ⟨g, cap, cur, rfl, _, _, hnc, _⟩
                · have : l = 0 := by omega
                  subst this
                  have : u = 0 := by omega
                  subst this
                  unfold Instr.sliceAt Instr.slice
                  simp only [Sem.run_bind, run_underlying hd, Result.andThen_ok, SV.toV, Option.map_none]
                  rw [sliceBounds_ok (len := 0) (cap := 0) hS hl (by rw [← hu, hk, hz]) (by omega) (by omega) (by omega)]
                  simp only [Result.andThen_ok, sizeT_run hsz, Sem.run_pure]
                  rfl
                · unfold Instr.sliceAt Instr.slice
                  simp only [Sem.run_bind, run_underlying hd, Result.andThen_ok, SV.toV, Option.map_none]
                  rw [sliceBounds_ok (len := xs.length) (cap := cap) hS hl (by rw [← hu, hk]) h0 h1 (by omega)]
                  simp only [Result.andThen_ok, sizeT_run hsz, Sem.run_pure]
                  rfl
            · exact h.elim
          · exact h.elim
        · exact h.elim
      · exact h.elim
    · exact h.elim
  · rename_i e v xs
    split at h
    · rename_i e' hd
      split at h
      · rename_i hsz
        split at h
        · rename_i l u hl hu
          obtain ⟨⟨h0, h1, h2⟩, h⟩ := h
          obtain ⟨A, cap, rfl, hc, hm, hro⟩ := hx
          refine ⟨_, h, ?_, ?_⟩
          · refine ⟨(if cap = l.toNat then A else A.map (·.add (l.toNat * szE T e))), cap - l.toNat, ?_, ?_, ?_, fun hlt => ?_⟩
            · simp only [sliceVal]
              congr 1
              simp; omega
            · simp; omega
            · omega
            · have hlt2 : l.toNat < xs.length := by
                simp only [List.length_drop, List.length_take] at hlt
                omega
              have hne : ¬ cap = l.toNat := by omega
              obtain ⟨ad, rfl, hn, hb, hcell⟩ := hro (Nat.lt_of_le_of_lt (Nat.zero_le _) hlt2)
              rw [if_neg hne]
              refine ⟨ad.add (l.toNat * szE T e), rfl, ?_, ?_, fun j v hj => ?_⟩
              · have hb' : (ad.add (l.toNat * szE T e)).block = ad.block := by unfold Addr.add; split <;> rfl
                rw [hb']; exact hn
              · have hb' : (ad.add (l.toNat * szE T e)).block = ad.block := by unfold Addr.add; split <;> rfl
                rw [hb']; exact hb
              · rw [addr_add_add]
                rw [take_drop_flat, List.getElem?_drop] at hj
                exact hcell _ _ (flat_prefix e _ _ _ hj)
          · unfold Instr.sliceAt Instr.slice
            simp only [Sem.run_bind, run_underlying hd, Result.andThen_ok, SV.toV, Option.map_none]
            rw [sliceBounds_ok (len := xs.length) (cap := cap) hS hl hu h0 h1 (by omega)]
            simp only [Result.andThen_ok, sizeT_run hsz, Sem.run_pure]
            rfl
        · exact h.elim
      · exact h.elim
    · exact h.elim
  · split at h
    · rename_i e' hd
      split at h
      · rename_i sz l u hsz hl hu
        obtain ⟨⟨rfl, rfl⟩, h⟩ := h
        refine ⟨_, h, rfl, ?_⟩
        unfold Instr.sliceAt Instr.slice
        simp only [Sem.run_bind, run_underlying hd, Result.andThen_ok, SV.toV, Option.map_none]
        rw [sliceBounds_ok (len := 0) (cap := 0) hS hl hu (by omega) (by omega) (by omega)]
        simp only [Result.andThen_ok, sizeT_run hsz, Sem.run_pure]
        rfl
      · exact h.elim
    · exact h.elim
  · exact h.elim
end Go.Vg
