/-
 The tables of a decoder, in plain Lean: how they are filled.
-/
import Derived.Test.YtdeidljffgahkaaGreatDoorWalk02
set_option linter.unusedVariables false
namespace Pc
def cval (lens : List Nat) (i : Nat) : Nat := rev (nx lens (lens.getD i 0) i) (lens.getD i 0)
theorem cval_lt (lens : List Nat) (i : Nat) : cval lens i < 2 ^ lens.getD i 0 := rev_lt _ _
theorem cval_hit (lens : List Nat) (i : Nat) : hit lens (cval lens i) i := by
 unfold hit
 exact Nat.mod_eq_of_lt (cval_lt lens i)
theorem cval_cd {lens : List Nat} (hg : Good lens) {i : Nat} (hi : i < lens.length) : cd lens (cval lens i) = i := cd_eq hg hi (cval_hit lens i)
theorem cval_cl {lens : List Nat} (hg : Good lens) {i : Nat} (hi : i < lens.length) : cl lens (cval lens i) = lens.getD i 0 := by unfold cl; rw [cval_cd hg hi]
def fillAt (C : List Nat) (off p val ch j : Nat) : List Nat := C.mapIdx fun q x => if off <= q /\ q < off + j /\ (q - off) % p = val then ch else x
theorem fillAt_len (C : List Nat) (off p val ch j : Nat) : (fillAt C off p val ch j).length = C.length := by simp [fillAt]
theorem fillAt_get (C : List Nat) (off p val ch j q : Nat) : (fillAt C off p val ch j)[q]? = (C[q]?).map fun x => if off <= q /\ q < off + j /\ (q - off) % p = val then ch else x := by
 simp [fillAt, List.getElem?_mapIdx]
theorem fillAt_zero {C : List Nat} {off p val ch : Nat} (hp : val < p) : fillAt C off p val ch val = C := by
 refine List.ext_getElem? fun q => ?_
 rw [fillAt_get]
 cases h : C[q]? with
 | none => rfl
 | some x =>
   have : ¬ (off <= q /\ q < off + val /\ (q - off) % p = val) := fun ⟨h1, h2, h3⟩ => by
     rw [Nat.mod_eq_of_lt (by omega)] at h3; omega
   simp only [Option.map_some, if_neg this]
theorem fillAt_step {C : List Nat} {off p val ch j : Nat} (hp : val < p) (hj : j % p = val) (hl : off + j < C.length) : (fillAt C off p val ch j).set (off + j) ch = fillAt C off p val ch (j + p) := by
 refine List.ext_getElem? fun q => ?_
 rw [List.getElem?_set, fillAt_get, fillAt_get, fillAt_len]
 by_cases h : off + j = q
 . subst h
   rw [if_pos rfl, if_pos hl, List.getElem?_eq_getElem hl, Option.map_some, if_pos ⟨by omega, by omega, by rw [Nat.add_sub_cancel_left]; exact hj⟩]
 . rw [if_neg h]
   congr 1
   funext x
   by_cases h1 : off <= q /\ q < off + j /\ (q - off) % p = val
   . rw [if_pos h1, if_pos ⟨h1.1, by omega, h1.2.2⟩]
   . rw [if_neg h1, if_neg]
     rintro ⟨h2, h3, h4⟩
     refine h1 ⟨h2, ?_, h4⟩
     refine Nat.lt_of_not_le fun h5 => ?_
     obtain ⟨d, hd⟩ : ∃ d, q - off = j + d := ⟨q - off - j, by omega⟩
     have hd0 : d < p /\ 0 < d := by omega
     rw [hd] at h4
     have h6 : (j + d) % p = (j % p + d) % p := (Nat.mod_add_mod j p d).symm
     rw [h6, hj] at h4
     by_cases h7 : val + d < p
     . rw [Nat.mod_eq_of_lt h7] at h4; omega
     . rw [Nat.mod_eq_sub_mod (by omega), Nat.mod_eq_of_lt (by omega)] at h4; omega
theorem mod_step {a d p : Nat} (h1 : d < p) (h2 : 0 < d) (h3 : (a + d) % p = a % p) : False := by
 have h6 : (a + d) % p = (a % p + d) % p := (Nat.mod_add_mod a p d).symm
 have hv := Nat.mod_lt a (show p > 0 by omega)
 rw [h6] at h3
 generalize a % p = v at *
 by_cases h7 : v + d < p
 . rw [Nat.mod_eq_of_lt h7] at h3; omega
 . rw [Nat.mod_eq_sub_mod (by omega), Nat.mod_eq_of_lt (by omega)] at h3; omega
theorem fillAt_stop {C : List Nat} {off p val ch j m : Nat} (h1 : m <= j) (h2 : j < m + p) (hj : j % p = val) : fillAt C off p val ch j = fillAt C off p val ch m := by
 refine List.ext_getElem? fun q => ?_
 rw [fillAt_get, fillAt_get]
 congr 1
 funext x
 by_cases h : off <= q /\ q < off + m /\ (q - off) % p = val
 . rw [if_pos h, if_pos ⟨h.1, by omega, h.2.2⟩]
 . rw [if_neg h, if_neg]
   rintro ⟨g1, g2, g3⟩
   have g4 : ¬ q < off + m := fun g => h ⟨g1, g, g3⟩
   obtain ⟨d, hd⟩ : ∃ d, j = (q - off) + d := ⟨j - (q - off), by omega⟩
   exact mod_step (a := q - off) (d := d) (p := p) (by omega) (by omega) (by rw [<- hd, hj, g3])
structure linkOK (lens : List Nat) (cb i : Nat) (L : List Nat) (n : Nat) : Prop where
 len : L.length = 2 ^ cb
 le : n <= i
 val : ∀ q, L.getD q 0 ≠ 0 -> ∃ k, k < n /\ L.getD q 0 = k * 32 + (cb + 1)
 inj : ∀ q q', L.getD q 0 ≠ 0 -> L.getD q 0 = L.getD q' 0 -> q = q'
 ex : ∀ j, j < i -> cb < lens.getD j 0 -> L.getD (cval lens j % 2 ^ cb) 0 ≠ 0
theorem link_zero (lens : List Nat) (cb : Nat) : linkOK lens cb 0 (List.replicate (2 ^ cb) 0) 0 := by
 have e : ∀ q, (List.replicate (2 ^ cb) 0).getD q 0 = 0 := fun q => by
   rw [List.getD_eq_getElem?_getD, List.getElem?_replicate]; split <;> rfl
 exact ⟨List.length_replicate, Nat.le_refl _, fun q h => absurd (e q) h, fun q q' h => absurd (e q) h, fun j h => by omega⟩
theorem link_skip {lens : List Nat} {cb i n : Nat} {L : List Nat} (h : linkOK lens cb i L n) (h1 : ¬ (cb < lens.getD i 0 /\ L.getD (cval lens i % 2 ^ cb) 0 = 0)) : linkOK lens cb (i + 1) L n := by
 refine ⟨h.len, by have := h.le; omega, h.val, h.inj, fun j hj hl => ?_⟩
 by_cases e : j = i
 . subst e; exact fun h2 => h1 ⟨hl, h2⟩
 . exact h.ex j (by omega) hl
theorem link_new {lens : List Nat} {cb i n : Nat} {L : List Nat} (h : linkOK lens cb i L n) (h0 : L.getD (cval lens i % 2 ^ cb) 0 = 0) : linkOK lens cb (i + 1) (L.set (cval lens i % 2 ^ cb) (n * 32 + (cb + 1))) (n + 1) := by
 have hp : 0 < 2 ^ cb := Nat.pow_pos (by decide)
 have hq : cval lens i % 2 ^ cb < L.length := by rw [h.len]; exact Nat.mod_lt _ hp
 obtain ⟨a, ha⟩ : ∃ a, a = cval lens i % 2 ^ cb := ⟨_, rfl⟩
 rw [<- ha] at h0 hq ⊢
 have e : ∀ q, (L.set a (n * 32 + (cb + 1))).getD q 0 = if a = q then n * 32 + (cb + 1) else L.getD q 0 := fun q => by
   rw [List.getD_eq_getElem?_getD, List.getElem?_set]
   by_cases h1 : a = q
   . rw [if_pos h1, if_pos h1, if_pos (by omega)]; rfl
   . rw [if_neg h1, if_neg h1, List.getD_eq_getElem?_getD]
 have hn := h.le
 refine ⟨by rw [List.length_set]; exact h.len, by omega, fun q hq => ?_, fun q q' h1 h2 => ?_, fun j hj hl => ?_⟩
 . rw [e] at hq ⊢
   split
   . exact ⟨n, by omega, rfl⟩
   . rw [if_neg (by assumption)] at hq
     obtain ⟨k, h1, h2⟩ := h.val q hq
     exact ⟨k, by omega, h2⟩
 . rw [e] at h1
   rw [e, e] at h2
   by_cases c1 : a = q <;> by_cases c2 : a = q'
   . omega
   . exfalso
     rw [if_pos c1, if_neg c2] at h2
     obtain ⟨k, h3, h4⟩ := h.val q' (by omega)
     omega
   . exfalso
     rw [if_neg c1, if_pos c2] at h2
     obtain ⟨k, h3, h4⟩ := h.val q (by omega)
     omega
   . rw [if_neg c1] at h1 h2
     rw [if_neg c2] at h2
     exact h.inj q q' h1 h2
 . rw [e]
   split
   . omega
   . by_cases e2 : j = i
     . rename_i hne
       exact absurd (by rw [e2]; exact ha) hne
     . exact h.ex j (by omega) hl
structure tabs (lens : List Nat) (cb lb : Nat) (L : List Nat) (i : Nat) (C F : List Nat) : Prop where
 len : C.length = 2 ^ cb
 short : ∀ v, cd lens v < i -> cl lens v <= cb -> C[v % 2 ^ cb]? = some (cd lens v * 32 + cl lens v)
 ptr : ∀ v, cb < cl lens v -> C[v % 2 ^ cb]? = L[v % 2 ^ cb]?
 long : ∀ v, cb < cl lens v -> cd lens v < i -> F[L.getD (v % 2 ^ cb) 0 / 32 * 2 ^ lb + v / 2 ^ cb % 2 ^ lb]? = some (cd lens v * 32 + cl lens v)
theorem tabs_zero {lens : List Nat} {cb lb : Nat} {L F : List Nat} (h : L.length = 2 ^ cb) : tabs lens cb lb L 0 L F := ⟨h, fun v h => by omega, fun v _ => rfl, fun v _ h => by omega⟩
theorem mod_mod_le {v a b : Nat} (h : a <= b) : v % 2 ^ b % 2 ^ a = v % 2 ^ a := Nat.mod_mod_of_dvd v (Nat.pow_dvd_pow 2 h)
theorem tabs_short {lens : List Nat} (hg : Good lens) {cb lb i : Nat} {L C F : List Nat} (h : tabs lens cb lb L i C F) (hi : i < lens.length) (hl : lens.getD i 0 <= cb) {j : Nat} (hj : C.length <= j) :
   tabs lens cb lb L (i + 1) (fillAt C 0 (2 ^ lens.getD i 0) (cval lens i) (i * 32 + lens.getD i 0) j) F := by
 have hp : 0 < 2 ^ cb := Nat.pow_pos (by decide)
 have hlen := h.len
 have key : ∀ v, (0 <= v % 2 ^ cb /\ v % 2 ^ cb < 0 + j /\ (v % 2 ^ cb - 0) % 2 ^ lens.getD i 0 = cval lens i) ↔ cd lens v = i := fun v => by
   have h1 := Nat.mod_lt v hp
   rw [Nat.sub_zero, mod_mod_le hl]
   constructor
   . exact fun h2 => cd_eq hg hi h2.2.2
   . rintro rfl
     exact ⟨by omega, by omega, (cd_hit hg v).2⟩
 have g : ∀ v, (fillAt C 0 (2 ^ lens.getD i 0) (cval lens i) (i * 32 + lens.getD i 0) j)[v % 2 ^ cb]? = (C[v % 2 ^ cb]?).map fun x => if cd lens v = i then i * 32 + lens.getD i 0 else x := fun v => by
   rw [fillAt_get]
   congr 1
   funext x
   by_cases h1 : cd lens v = i
   . rw [if_pos h1, if_pos ((key v).2 h1)]
   . rw [if_neg h1, if_neg (fun h2 => h1 ((key v).1 h2))]
 refine ⟨by rw [fillAt_len]; exact hlen, fun v h1 h2 => ?_, fun v h1 => ?_, fun v h1 h2 => ?_⟩
 . rw [g]
   by_cases e : cd lens v = i
   . rw [List.getElem?_eq_getElem (by rw [hlen]; exact Nat.mod_lt _ hp), Option.map_some, if_pos e, e]
     unfold cl; rw [e]
   . rw [h.short v (by omega) h2, Option.map_some, if_neg e]
 . have e : cd lens v ≠ i := fun e => by unfold cl at h1; rw [e] at h1; omega
   rw [g, <- h.ptr v h1]
   cases C[v % 2 ^ cb]? <;> simp [e]
 . have e : cd lens v ≠ i := fun e => by unfold cl at h1; rw [e] at h1; omega
   exact h.long v h1 (by omega)
theorem tabs_long {lens : List Nat} (hg : Good lens) {cb lb i n : Nat} {L C F : List Nat} (h : tabs lens cb lb L i C F) (hL : linkOK lens cb lens.length L n) (hi : i < lens.length) (hl : cb < lens.getD i 0) (hm : lens.getD i 0 <= cb + lb) (hF : n * 2 ^ lb <= F.length) {j : Nat} (hcb : cb <= 9) {j : Nat} (hj : j = 2 ^ lb) :
   tabs lens cb lb L (i + 1) C (fillAt F (L.getD (cval lens i % 2 ^ cb) 0 / 32 * 2 ^ lb) (2 ^ (lens.getD i 0 - cb)) (cval lens i / 2 ^ cb) (i * 32 + lens.getD i 0) j) := by
 subst hj
 have hp : 0 < 2 ^ cb := Nat.pow_pos (by decide)
 have hq : 0 < 2 ^ lb := Nat.pow_pos (by decide)
 have at_ : ∀ {v}, cb < cl lens v -> v % 2 ^ cb = cval lens (cd lens v) % 2 ^ cb := fun {v} hv => by
   have h1 := (cd_hit hg v).2
   unfold hit at h1
   unfold cval
   rw [<- h1]
   exact (mod_mod_le (Nat.le_of_lt hv)).symm
 have nz : ∀ {v}, cb < cl lens v -> L.getD (v % 2 ^ cb) 0 ≠ 0 := fun {v} hv => by
   rw [at_ hv]; exact hL.ex _ (cd_hit hg v).1 hv
 have num : ∀ q, L.getD q 0 ≠ 0 -> L.getD q 0 = L.getD q 0 / 32 * 32 + (cb + 1) /\ L.getD q 0 / 32 < n := fun q hq => by
   obtain ⟨k, h1, h2⟩ := hL.val q hq
   omega
 have hci : cb < cl lens (cval lens i) := by rw [cval_cl hg hi]; exact hl
 obtain ⟨z1, z2⟩ := num _ (nz hci)
 generalize hk : L.getD (cval lens i % 2 ^ cb) 0 / 32 = k0 at *
 obtain ⟨d, hd⟩ : ∃ d, lens.getD i 0 = cb + d := ⟨lens.getD i 0 - cb, by omega⟩
 have key : ∀ v, cb < cl lens v -> ((k0 * 2 ^ lb <= L.getD (v % 2 ^ cb) 0 / 32 * 2 ^ lb + v / 2 ^ cb % 2 ^ lb /\ L.getD (v % 2 ^ cb) 0 / 32 * 2 ^ lb + v / 2 ^ cb % 2 ^ lb < k0 * 2 ^ lb + 2 ^ lb /\ (L.getD (v % 2 ^ cb) 0 / 32 * 2 ^ lb + v / 2 ^ cb % 2 ^ lb - k0 * 2 ^ lb) % 2 ^ (lens.getD i 0 - cb) = cval lens i / 2 ^ cb) ↔ cd lens v = i) := fun v hv => by
   obtain ⟨y1, y2⟩ := num _ (nz hv)
   have hy := Nat.mod_lt (v / 2 ^ cb) hq
   rw [hd, Nat.add_sub_cancel_left]
   constructor
   . rintro ⟨h1, h2, h3⟩
     have e : L.getD (v % 2 ^ cb) 0 / 32 = k0 := by
       generalize L.getD (v % 2 ^ cb) 0 / 32 = kv at *
       generalize 2 ^ lb = p at *
       rcases Nat.lt_trichotomy kv k0 with h4 | h4 | h4
       . have := Nat.mul_le_mul_right p (show kv + 1 <= k0 by omega)
         rw [Nat.add_mul] at this; omega
       . exact h4
       . have := Nat.mul_le_mul_right p (show k0 + 1 <= kv by omega)
         rw [Nat.add_mul] at this; omega
     rw [e, Nat.add_sub_cancel_left, mod_mod_le (by omega)] at h3
     have e2 : v % 2 ^ cb = cval lens i % 2 ^ cb := hL.inj _ _ (nz hv) (by omega)
     refine cd_eq hg hi ?_
     show v % 2 ^ lens.getD i 0 = cval lens i
     rw [hd, Nat.pow_add, Nat.mod_mul, e2, h3]
     exact Nat.mod_add_div _ _
   . rintro rfl
     have e := at_ hv
     have e2 : L.getD (v % 2 ^ cb) 0 / 32 = k0 := by rw [e]; exact hk
     rw [e2, Nat.add_sub_cancel_left, mod_mod_le (by omega)]
     refine ⟨by omega, by omega, ?_⟩
     have h1 : v % 2 ^ lens.getD (cd lens v) 0 = cval lens (cd lens v) := (cd_hit hg v).2
     rw [<- h1, hd, Nat.pow_add, Nat.mod_mul, Nat.add_mul_div_left _ _ hp, Nat.div_eq_of_lt (Nat.mod_lt _ hp), Nat.zero_add]
 refine ⟨h.len, fun v h1 h2 => h.short v ?_ h2, h.ptr, fun v h1 h2 => ?_⟩
 . have : cd lens v ≠ i := fun e => by unfold cl at h2; rw [e] at h2; omega
   omega
 . rw [fillAt_get]
   by_cases e : cd lens v = i
   . obtain ⟨y1, y2⟩ := num _ (nz h1)
     have hy := Nat.mod_lt (v / 2 ^ cb) hq
     have hlt : L.getD (v % 2 ^ cb) 0 / 32 * 2 ^ lb + v / 2 ^ cb % 2 ^ lb < F.length := by
       generalize L.getD (v % 2 ^ cb) 0 / 32 = kv at *
       have := Nat.mul_le_mul_right (2 ^ lb) (show kv + 1 <= n by omega)
       rw [Nat.add_mul] at this; omega
     rw [List.getElem?_eq_getElem hlt, Option.map_some, if_pos ((key v h1).2 e), e]
     unfold cl; rw [e]
   . rw [h.long v h1 (by omega), Option.map_some, if_neg (fun h2 => e ((key v h1).1 h2))]
theorem tabs_end {lens : List Nat} (hg : Good lens) {cb lb n : Nat} {L C F : List Nat} (h : tabs lens cb lb L lens.length C F) (hL : linkOK lens cb lens.length L n) (hcb : cb <= 9) {v : Nat} (hv : cb < cl lens v) :
   ∃ k, k < n /\ C[v % 2 ^ cb]? = some (k * 32 + (cb + 1)) /\ F[k * 2 ^ lb + v / 2 ^ cb % 2 ^ lb]? = some (cd lens v * 32 + cl lens v) := by
 have h1 := (cd_hit hg v).2
 have e : v % 2 ^ cb = cval lens (cd lens v) % 2 ^ cb := by
   unfold hit at h1
   unfold cval
   rw [<- h1]
   exact (mod_mod_le (Nat.le_of_lt hv)).symm
 have nz : L.getD (v % 2 ^ cb) 0 ≠ 0 := by rw [e]; exact hL.ex _ (cd_hit hg v).1 hv
 obtain ⟨k, h2, h3⟩ := hL.val _ nz
 have hl := h.long v hv (cd_hit hg v).1
 have hp := h.ptr v hv
 rw [show L.getD (v % 2 ^ cb) 0 / 32 = k by omega] at hl
 refine ⟨k, h2, ?_, hl⟩
 rw [hp]
 have hq : v % 2 ^ cb < L.length := by rw [hL.len]; exact Nat.mod_lt _ (Nat.pow_pos (by decide))
 rw [List.getElem?_eq_getElem hq, <- h3, List.getD_eq_getElem?_getD, List.getElem?_eq_getElem hq]
 rfl
theorem part_get {F : List Nat} {k p y : Nat} (hy : y < p) : ((F.take ((k + 1) * p)).drop (k * p))[y]? = F[k * p + y]? := by
 rw [List.getElem?_drop, List.getElem?_take, if_pos (by rw [Nat.add_mul]; omega)]
structure mmOK (lens : List Nat) (i mn mx : Nat) : Prop where
 all : ∀ j, j < i -> mn <= lens.getD j 0 /\ lens.getD j 0 <= mx
 lo : 1 <= mn /\ mn <= 27
 hi : mx <= 20
 at_ : mx = 0 \/ ∃ j, j < i /\ lens.getD j 0 = mx
theorem mm_zero (lens : List Nat) : mmOK lens 0 27 0 := ⟨fun j h => by omega, by omega, by omega, .inl rfl⟩
theorem mm_step {lens : List Nat} (hg : Good lens) {i mn mx : Nat} (h : mmOK lens i mn mx) (hi : i < lens.length) {mn' mx' : Nat} (h1 : mn' = min mn (lens.getD i 0)) (h2 : mx' = max mx (lens.getD i 0)) : mmOK lens (i + 1) mn' mx' := by
 have hp := hg.pos _ (getD_mem hi)
 have hl := h.lo
 have hh := h.hi
 refine ⟨fun j hj => ?_, by omega, by omega, ?_⟩
 . by_cases e : j = i
   . subst e; omega
   . have := h.all j (by omega); omega
 . by_cases e : mx <= lens.getD i 0
   . exact .inr ⟨i, by omega, by omega⟩
   . rcases h.at_ with h3 | ⟨j, h3, h4⟩
     . omega
     . exact .inr ⟨j, by omega, by omega⟩
theorem mm_end {lens : List Nat} (hg : Good lens) {mn mx : Nat} (h : mmOK lens lens.length mn mx) : 1 <= mx /\ (∀ v, mn <= cl lens v /\ cl lens v <= mx) /\ ∃ j, j < lens.length /\ lens.getD j 0 = mx := by
 have h2 := hg.two
 have h0 := h.all 0 (by omega)
 have hp := hg.pos _ (getD_mem (show 0 < lens.length by omega))
 refine ⟨by omega, fun v => h.all _ (cd_hit hg v).1, ?_⟩
 rcases h.at_ with h3 | h3
 . omega
 . exact h3
end Pc
/-
 Rows of one's own inside blocks, frozen where a function ends.
-/
set_option linter.unusedVariables false
namespace Go.Vg
variable {T : Tys}
def frzS : List (Seg T) -> List (Ent T) -> (List (Seg T) -> List (Ent T) -> VCT) -> VCT
 | [], H, k => k [] H
 | .c x :: r, H, k => frz x H fun y H => frzS r H fun ys H => k (.c y :: ys) H
 | .r e n l :: r, H, k => frzS r H fun ys H => k (.r e n l :: ys) H
def frzE : List Nat -> List (Ent T) -> (List (Ent T) -> VCT) -> VCT
 | [], H, k => k H
 | i :: r, H, k => match H.getD i .X with
   | .B b t xs => frzS xs H fun ys H => match H.getD i .X with
     | .B b' t' _ => .fact (b' = b) (frzE r (H.set i (.B b t ys)) k)
     | _ => .ff "freeze: no block"
   | _ => .ff "freeze: no block"
def outB (es : List Nat) (fz : Bool) (n0 : Nat) (K : SV T -> List (Ent T) -> VCT) (r : SV T) (H : List (Ent T)) : VCT := frzE es H fun H => outK fz n0 K r H
theorem frzS_ok {C : Ctx T} {w : World} : ∀ (xs : List (Seg T)) (H : List (Ent T)) (k : List (Seg T) -> List (Ent T) -> VCT), (frzS xs H k).den -> HOK C H w -> Seg.validL (Owns H) w xs ->
   ∃ ys H', Seg.cellsL ys = Seg.cellsL xs /\ (k ys H').den /\ HOK C H' w /\ Seg.validL (Owns H') w ys /\ Stp (Owns H) (Owns H') w w
 | [], H, k, hk, hH, hx => ⟨[], H, rfl, hk, hH, trivial, Stp.refl _ _⟩
 | .c x :: r, H, k, hk, hH, hx => by
   obtain ⟨y, H1, h1, h2, h3, h4, h5⟩ := frz_ok x H _ hk hH hx.1.1
   obtain ⟨ys, H2, g1, g2, g3, g4, g5⟩ := frzS_ok r H1 _ h2 h3 (Seg.validL_step h5 r hx.2)
   refine ⟨.c y :: ys, H2, by simp only [Seg.cellsL, Seg.cells, h1, g1], g2, g3, ⟨⟨SV.valid_step g5 y h4, ?_⟩, g4⟩, h5.trans g5⟩
   rw [h1]; exact hx.1.2
 | .r e n l :: r, H, k, hk, hH, hx => by
   obtain ⟨ys, H2, g1, g2, g3, g4, g5⟩ := frzS_ok r H _ hk hH hx.2
   exact ⟨.r e n l :: ys, H2, by simp only [Seg.cellsL, g1], g2, g3, ⟨hx.1, g4⟩, g5⟩
theorem frzE_ok {C : Ctx T} {w : World} : ∀ (es : List Nat) (H : List (Ent T)) (k : List (Ent T) -> VCT) (r : SV T), (frzE es H k).den -> HOK C H w -> r.valid (Owns H) w ->
   ∃ H', (k H').den /\ HOK C H' w /\ r.valid (Owns H') w /\ Stp (Owns H) (Owns H') w w
 | [], H, k, r, hk, hH, hr => ⟨H, hk, hH, hr, Stp.refl _ _⟩
 | i :: es, H, k, r, hk, hH, hr => by
   unfold frzE at hk
   split at hk
   . rename_i b t xs he
     have hent : (H.getD i .X).ok (Owns H) w := ent_ok (S := { fr := Fr.nil, H := H }) hH i
     rw [he] at hent
     obtain ⟨ys, H1, h1, h2, h3, h4, h5⟩ := frzS_ok xs H _ hk hH hent.2
     split at h2
     . rename_i b' t' zs he1
       obtain ⟨rfl, h2⟩ := h2
       have hn1 := ent_get (S := { fr := Fr.nil, H := H1 }) (h := i) he1 (by intro h; cases h)
       obtain ⟨p1, p2⟩ := h3.put i _ (.B b' t ys) hn1 (w' := w) rfl rfl rfl (Nat.le_refl _) (fun _ _ _ => rfl) (fun k hk => ⟨.inl hk, h3.lt k ⟨i, _, hn1, hk⟩⟩) (fun I s => ⟨by rw [h1]; exact hent.1, Seg.validL_step s ys h4⟩)
       obtain ⟨H2, q1, q2, q3, q4⟩ := frzE_ok es _ k r h2 p1 (SV.valid_step (h5.trans p2) r hr)
       exact ⟨H2, q1, q2, q3, (h5.trans p2).trans q4⟩
     . exact h2.elim
   . exact hk.elim
theorem ctr_okB {C : Ctx T} (hz : ZOK C) {sp : Nat -> Option (PT T)} (hsp : ∀ f pt, sp f = some pt -> SpecOK C f pt) (hm : C.P.follows .mixedOrders = true) {f : Nat} {fn : Func} (hf : C.P.funcs[f]? = some fn)
   (hname : (fn.name == "runtime.NumGoroutine") = false) (hb : fn.body.isSome = true) (hlx : lexF fn = true) (es : List Nat) (fz : Bool) (c : Ctr T) (ann : c.X -> Ann T)
   (h : ∀ x, c.phi x -> Met (fnx C sp (ann x) fn (c.args x) (c.H x) (outB es fz (c.H x).length (c.ret x)) (c.pan x))) : SpecOK C f c.pt := by
 obtain ⟨cd, hc⟩ := Option.isSome_iff_exists.mp hb
 refine ctr_spec c (fun args w => MuLone.run_callFunc_enter hf hname hc args w) fun x hx w hI => ?_
 refine (fnx_ok hz hsp hm hf hlx (h x hx).den hI).mono ?_
 rintro e w' (⟨r, H', rfl, hk, hH', hr, hst⟩ | ⟨r, H', rfl, hk, hH', hr, hst⟩)
 . obtain ⟨H1, q1, q2, q3, q4⟩ := frzE_ok es H' _ r hk hH' hr
   obtain ⟨r2, H2, g1, g2, g3, g4, g5⟩ := outK_ok q1 q2 q3
   exact .inl ⟨r2, H2, by rw [g1], g2, g3, g4, (hst.trans q4).trans g5⟩
 . exact .inr ⟨r, H', rfl, hk, hH', hr, hst⟩
end Go.Vg
/-
 The contract of Decoder.Init.
-/
set_option linter.unusedVariables false
set_option maxRecDepth 100000
open Go Go.Vg Go.Proofs
namespace Pc
noncomputable def CD (G : Gl) : Ctx TT := { CC G with hint := fun t => cond (Nat.beq t 42) (some 5) none }
theorem spec_CD {G : Gl} {f : Nat} {pt : PT TT} (hs : SpecOK (CC G) f pt) : SpecOK (CD G) f pt := ⟨hs.enters, fun args H K Kp w hp hI => by
 have := hs.calls args H K Kp w hp ⟨⟨hI.1.ents, hI.1.apart, hI.1.lt, hI.1.glob⟩, hI.2⟩
 refine this.mono ?_
 rintro e w' (⟨r, H', he, hk, hH', hr, hst⟩ | ⟨r, H', he, hk, hH', hr, hst⟩)
 . exact .inl ⟨r, H', he, hk, ⟨hH'.ents, hH'.apart, hH'.lt, hH'.glob⟩, hr, hst⟩
 . exact .inr ⟨r, H', he, hk, ⟨hH'.ents, hH'.apart, hH'.lt, hH'.glob⟩, hr, hst⟩⟩
theorem spec_DC {G : Gl} {f : Nat} {pt : PT TT} (hs : SpecOK (CD G) f pt) : SpecOK (CC G) f pt := ⟨hs.enters, fun args H K Kp w hp hI => by
 have := hs.calls args H K Kp w hp ⟨⟨hI.1.ents, hI.1.apart, hI.1.lt, hI.1.glob⟩, hI.2⟩
 refine this.mono ?_
 rintro e w' (⟨r, H', he, hk, hH', hr, hst⟩ | ⟨r, H', he, hk, hH', hr, hst⟩)
 . exact .inl ⟨r, H', he, hk, ⟨hH'.ents, hH'.apart, hH'.lt, hH'.glob⟩, hr, hst⟩
 . exact .inr ⟨r, H', he, hk, ⟨hH'.ents, hH'.apart, hH'.lt, hH'.glob⟩, hr, hst⟩⟩
noncomputable def IND (G : Gl) (base : Nat -> Option (PT TT)) (ann : Nat -> Ann TT) : Nat -> Option (PT TT) := inl (CD G) base (bodyW ann) 12
theorem specD (G : Gl) {base : Nat -> Option (PT TT)} (hb : ∀ f pt, base f = some pt -> SpecOK (CC G) f pt) {f : Nat} {fn : Func} (hf : fnOf f = some fn) (anns : Nat -> Ann TT) (es : List Nat) (c : Ctr TT) (ann : c.X -> Ann TT)
   (h : ∀ x, c.phi x -> Met (fnx (CD G) (IND G base anns) (ann x) fn (c.args x) (c.H x) (outB es true (c.H x).length (c.ret x)) (c.pan x))) : SpecOK (CC G) f c.pt := by
 obtain ⟨h1, h2, h3, h4⟩ := fnOf_ok G f fn hf
 refine spec_DC ?_
 have hz : ZOK (CD G) := zok G
 have hm : (CD G).P.follows .mixedOrders = true := mixed G
 exact ctr_okB hz (inl_ok hz hm (fun f pt h => spec_CD (hb f pt h)) (bodyW_ok G anns) 12) hm h1 h2 h3 h4 es true c ann h
noncomputable def CT (G : Gl) : Ctx TT := { CC G with tight := true }
theorem spec_TC {G : Gl} {f : Nat} {pt : PT TT} (hs : SpecOK (CT G) f pt) : SpecOK (CC G) f pt := ⟨hs.enters, fun args H K Kp w hp hI => by
 have := hs.calls args H K Kp w hp ⟨⟨hI.1.ents, hI.1.apart, hI.1.lt, hI.1.glob⟩, hI.2⟩
 refine this.mono ?_
 rintro e w' (⟨r, H', he, hk, hH', hr, hst⟩ | ⟨r, H', he, hk, hH', hr, hst⟩)
 . exact .inl ⟨r, H', he, hk, ⟨hH'.ents, hH'.apart, hH'.lt, hH'.glob⟩, hr, hst⟩
 . exact .inr ⟨r, H', he, hk, ⟨hH'.ents, hH'.apart, hH'.lt, hH'.glob⟩, hr, hst⟩⟩
theorem specT (G : Gl) {f : Nat} {fn : Func} (hf : fnOf f = some fn) (c : Ctr TT) (ann : c.X -> Ann TT)
   (h : ∀ x, c.phi x -> Met (fnx (CT G) no (ann x) fn (c.args x) (c.H x) (outK false (c.H x).length (c.ret x)) (c.pan x))) : SpecOK (CC G) f c.pt := by
 obtain ⟨h1, h2, h3, h4⟩ := fnOf_ok G f fn hf
 refine spec_TC ?_
 have hz : ZOK (CT G) := zok G
 have hm : (CT G).P.follows .mixedOrders = true := mixed G
 exact ctr_okX hz (fun f pt h => by cases h) hm h1 h2 h3 h4 false c ann h
/-! New rows. -/
def c114 : Ctr TT where
 X := Fz × Rel TT × Nat
 find a H := match a, H with
   | [_, .v (.int .i64 n)], [.F m, .R rel] => some (m, rel, n.toNat)
   | _, _ => none
 phi x := 0 < x.2.2 /\ x.2.2 <= 1000000
 args x := [.w (.slice none 0 0) 0, iv .i64 x.2.2]
 H x := fr2 x.1 x.2.1
 outs := [{ Y := fun _ => Value, psi := fun x y => True, res := fun x y => .o 2 43 y x.2.2, H := fun x y => [.F x.1, .R x.2.1, .O y 43 (ints (List.replicate x.2.2 0))] }]
def slN : Sl := ⟨none, 0, 0⟩
def c142 : Ctr TT where
 X := Fz × Rel TT × Nat
 find a H := match a, H with
   | [_, .v (.int .i64 n)], [.F m, .R rel] => some (m, rel, n.toNat)
   | _, _ => none
 phi x := 0 < x.2.2 /\ x.2.2 <= 1000000
 args x := [nilV, iv .i64 x.2.2]
 H x := fr2 x.1 x.2.1
 outs := [{ Y := fun _ => Value, psi := fun x y => True, res := fun x y => .o 2 42 y x.2.2, H := fun x y => [.F x.1, .R x.2.1, .O y 42 (List.replicate x.2.2 slN)] }]
noncomputable def b100 : Nat -> Option (PT TT)
 | 114 => some (loc [none, none] c114.pt)
 | 142 => some (loc [none, none] c142.pt)
 | _ => none
structure X100 where
 m : Fz
 rel : Rel TT
 db : Nat
 cv : Value
 lens : List Nat
def seg0 : List (Seg TT) := [nilS, nilS, i0 .u32, i0 .u32, i0 .u32, i0 .u32, i0 .u32]
def c100 : Ctr TT where
 X := X100
 find a H := match a, H with
   | [.p 2 _ (.lit 0), .ro 210 cv l], [.F m, .R rel, .B db 201 _] => some ⟨m, rel, db, cv, lensOf l⟩
   | _, _ => none
 phi x := Good x.lens
 args x := [.p 2 x.db (.lit 0), .ro 210 x.cv (canonL x.lens)]
 H x := [.F x.m, .R x.rel, .B x.db 201 seg0]
 outs := [{ Y := fun _ => DC × Rel TT, psi := fun x y => relLe x.rel y.2 /\ decOK y.2 x.lens y.1, res := fun x _ => .t [], H := fun x y => [.F x.m, .R y.2, .B x.db 201 (segD y.1)] }]
def segW (cv : Value) (ls : SV TT) (cb lm mn ns : Nat) : List (Seg TT) := [.c (.o 3 43 cv (2 ^ cb)), .c ls, .c (iv .u32 (2 ^ cb - 1)), .c (iv .u32 lm), .c (iv .u32 cb), .c (iv .u32 mn), .c (iv .u32 ns)]
structure links (fx : Value) (nl n t : Nat) (lk : List Sl) : Prop where
 len : lk.length = n
 at_ : ∀ s, s < t -> ∃ sl, lk[s]? = some sl /\ sl.val = sliceVal fx (s * nl) ((s + 1) * nl) 1 /\ sl.n = nl
noncomputable def inv59 (lens : List Nat) (cx : Value) (C : List Nat) (i : Nat) : Inv TT where
 X := Nat
 phi := fun j => j % 2 ^ lens.getD i 0 = cval lens i /\ j < C.length + 2 ^ lens.getD i 0
 fr := fun j => [(19, iv .u32 (i * 32 + lens.getD i 0)), (20, iv .i64 (2 ^ lens.getD i 0)), (21, iv .i64 j)]
 H := fun j => [(3, .O cx 43 (ints (fillAt C 0 (2 ^ lens.getD i 0) (cval lens i) (i * 32 + lens.getD i 0) j)))]
 mu := fun j => C.length + 2 ^ lens.getD i 0 - j
def lkAt (lens C : List Nat) (i cb : Nat) : Nat := C.getD (cval lens i % 2 ^ cb) 0 / 32
noncomputable def inv66 (lens : List Nat) (fx : Value) (C F : List Nat) (i cb nl : Nat) : Inv TT where
 X := Nat
 phi := fun j => j % 2 ^ (lens.getD i 0 - cb) = cval lens i / 2 ^ cb /\ j < nl + 2 ^ (lens.getD i 0 - cb)
 fr := fun j => [(19, iv .u32 (i * 32 + lens.getD i 0)), (23, .w (sliceVal fx (lkAt lens C i cb * nl) ((lkAt lens C i cb + 1) * nl) 1) nl), (24, iv .i64 (2 ^ (lens.getD i 0 - cb))), (25, iv .i64 j)]
 H := fun j => [(5, .O fx 43 (ints (fillAt F (lkAt lens C i cb * nl) (2 ^ (lens.getD i 0 - cb)) (cval lens i / 2 ^ cb) (i * 32 + lens.getD i 0) j)))]
 mu := fun j => nl + 2 ^ (lens.getD i 0 - cb) - j
noncomputable def a100 (db : Nat) (lens : List Nat) : Ann TT := fun r S => match r with
 | 13 => some {
   X := Nat × Nat × Nat
   phi := fun y => y.1 <= lens.length /\ mmOK lens y.1 y.2.1 y.2.2
   fr := fun y => [(106, iv .i64 y.1), (4, iv .u32 y.2.1), (5, iv .u32 y.2.2)]
   H := fun y => []
   mu := fun y => lens.length - y.1 }
 | 5025 => match S.ent 2, S.get 5 with
   | .B _ _ [_, _, _, _, _, mn, ns], some (.v (.int _ mx)) => some {
     X := Nat
     phi := fun c => c = min mx.toNat 9
     fr := fun _ => []
     H := fun c => [(2, .B db 201 [nilS, nilS, i0 .u32, i0 .u32, .c (iv .u32 c), mn, ns])]
     mu := fun _ => 0 }
   | _, _ => none
 | 5028 => match S.ent 2 with
   | .B _ _ (.c (.o _ _ cx _) :: _) => some {
     X := Nat × Nat × Nat
     phi := fun y => mmOK lens lens.length y.1 y.2.1 /\ y.2.2 = min y.2.1 9
     fr := fun y => [(5, iv .u32 y.2.1)]
     H := fun y => [(2, .B db 201 (segW cx nilV y.2.2 0 y.1 lens.length)), (3, .O cx 43 (ints (List.replicate (2 ^ y.2.2) 0)))]
     mu := fun _ => 0 }
   | _ => none
 | 5033 => match S.ent 2, S.ent 3, S.get 5 with
   | .B _ _ [_, _, _, _, .c (.v (.int _ cb)), .c (.v (.int _ mn)), _], .O cx 43 _, some (.v (.int _ mx)) => some {
     X := Unit
     phi := fun y => True
     fr := fun y => [(9, iv .i64 (2 ^ (mx.toNat - cb.toNat)))]
     H := fun y => [(2, .B db 201 (segW cx nilV cb.toNat (2 ^ (mx.toNat - cb.toNat) - 1) mn.toNat lens.length))]
     mu := fun _ => 0 }
   | _, _, _ => none
 | 35 => match S.ent 3 with
   | .O cx 43 l => some {
     X := Nat
     phi := fun i => i <= l.length
     fr := fun i => [(200, iv .i64 i)]
     H := fun i => [(3, .O cx 43 l)]
     mu := fun i => l.length - i }
   | _ => none
 | 40 => match S.ent 2, S.ent 3 with
   | .B _ _ [_, _, _, _, .c (.v (.int _ cb)), _, _], .O cx 43 _ => some {
     X := Nat × List Nat × Nat
     phi := fun y => y.1 <= lens.length /\ linkOK lens cb.toNat y.1 y.2.1 y.2.2
     fr := fun y => [(212, iv .i64 y.1), (10, iv .u32 y.2.2)]
     H := fun y => [(3, .O cx 43 (ints y.2.1))]
     mu := fun y => lens.length - y.1 }
   | _, _ => none
 | 49 => match S.ent 4, S.get 14, S.get 9, S.get 10 with
   | .O lx 42 _, some (.o _ _ fx _), some (.v (.int _ nl)), some (.v (.int _ n)) => some {
     X := Nat × List Sl
     phi := fun y => y.1 <= n.toNat /\ links fx nl.toNat n.toNat y.1 y.2
     fr := fun y => [(15, iv .i64 y.1), (16, iv .i64 (y.1 * nl.toNat))]
     H := fun y => [(4, .O lx 42 y.2)]
     mu := fun y => n.toNat - y.1 }
   | _, _, _, _ => none
 | 53 => match S.ent 2, S.ent 3 with
   | .B _ _ [_, _, _, _, .c (.v (.int _ cb)), _, _], .O cx 43 L => match S.H, S.get 5 with
     | [_, _, _, _, _, .O fx 43 F0], some (.v (.int _ mx)) => some {
       X := Nat × List Nat × List Nat
       phi := fun y => y.1 <= lens.length /\ tabs lens cb.toNat (mx.toNat - cb.toNat) (nats L) y.1 y.2.1 y.2.2 /\ y.2.2.length = F0.length
       fr := fun y => [(309, iv .i64 y.1)]
       H := fun y => [(3, .O cx 43 (ints y.2.1)), (5, .O fx 43 (ints y.2.2))]
       mu := fun y => lens.length - y.1 }
     | _, _ => some {
       X := Nat × List Nat
       phi := fun y => y.1 <= lens.length /\ tabs lens cb.toNat 0 (nats L) y.1 y.2 []
       fr := fun y => [(309, iv .i64 y.1)]
       H := fun y => [(3, .O cx 43 (ints y.2))]
       mu := fun y => lens.length - y.1 }
   | _, _ => none
 | 59 => match S.ent 3, S.get 309 with
   | .O cx 43 C, some (.v (.int _ i)) => some (inv59 lens cx (nats C) i.toNat)
   | _, _ => none
 | 66 => match S.ent 2, S.ent 3, S.ent 5 with
   | .B _ _ [_, _, _, _, .c (.v (.int _ cb)), _, _], .O _ 43 C, .O fx 43 F => match S.get 309, S.get 5 with
     | some (.v (.int _ i)), some (.v (.int _ mx)) => some (inv66 lens fx (nats C) (nats F) i.toNat cb.toNat (2 ^ (mx.toNat - cb.toNat)))
     | _, _ => none
   | _, _, _ => none
 | _ => none
/-! Numbers. -/
theorem canon_at {lens : List Nat} {i : Nat} {c : Cd} (h : (canonL lens)[i]? = some c) : i < lens.length /\ c = ⟨i, 0, (lens.getD i 0 : Nat), (cval lens i : Nat)⟩ := by
 obtain ⟨k, h1, h2⟩ := canonL_get h
 obtain ⟨h3, rfl⟩ := List.getElem?_eq_some_iff.1 h1
 refine ⟨h3, ?_⟩
 rw [h2]
 unfold cval
 rw [List.getD_eq_getElem?_getD, h1, Option.getD_some]
theorem shl1 {n : Nat} (h : n <= 62) : shlI IntKind.i64 (1 : Int) (n : Int) = ((2 ^ n : Nat) : Int) := by
 have h1 : (2 : Nat) ^ n <= 2 ^ 62 := Nat.pow_le_pow_right (by decide) h
 unfold shlI
 rw [Int.toNat_natCast, show min n IntKind.i64.bits = n by simp only [IntKind.bits]; omega, Int.one_mul]
 have e : (2 : Int) ^ n = ((2 ^ n : Nat) : Int) := by simp
 rw [e]
 generalize (2 : Nat) ^ n = p at h1
 exact wrI (by omega) (by omega)
theorem chunkN {i l : Nat} (hi : i <= 60) (hl : l <= 20) : bitI BinOp.or IntKind.u32 (shlI IntKind.u32 (i : Int) (5 : Int)) (l : Int) = ((i * 32 + l : Nat) : Int) := by
 rw [show (5 : Int) = ((5 : Nat) : Int) from rfl, shlN rfl, show min 5 IntKind.u32.bits = 5 from rfl, Nat.mod_eq_of_lt (by simp only [IntKind.bits]; omega), orN rfl (by simp only [IntKind.bits]; omega) (by simp only [IntKind.bits]; omega)]
 rw [Nat.or_comm, or_add (show l < 2 ^ 5 by omega)]
 omega
theorem maskC {v n : Nat} (hv : v < 2 ^ 32) (hn : n <= 9) : bitI BinOp.and IntKind.u32 (v : Int) ((2 ^ n - 1 : Nat) : Int) = ((v % 2 ^ n : Nat) : Int) := by
 have h1 : (2 : Nat) ^ n <= 2 ^ 9 := Nat.pow_le_pow_right (by decide) hn
 rw [andN rfl (by simp only [IntKind.bits]; omega) (by simp only [IntKind.bits]; omega), Nat.and_two_pow_sub_one_eq_mod]
theorem w32 {n : Nat} (h : n < 2 ^ 32) : IntKind.u32.wrap (n : Int) = (n : Int) := wrId rfl h
theorem w64 {n : Nat} (h : n < 2 ^ 64) : IntKind.u64.wrap (n : Int) = (n : Int) := wrId rfl h
theorem w32s {a b : Nat} (h : b <= a) (ha : a < 2 ^ 32) : IntKind.u32.wrap ((a : Int) - (b : Int)) = ((a - b : Nat) : Int) := by
 rw [show (a : Int) - (b : Int) = ((a - b : Nat) : Int) by omega]
 exact w32 (by omega)
theorem shr32 {a n : Nat} (h : n <= 32) : shrI IntKind.u32 (a : Int) (n : Int) = ((a / 2 ^ n : Nat) : Int) := by
 rw [shrN, show min n IntKind.u32.bits = n by simp only [IntKind.bits]; omega]
theorem cval_small {lens : List Nat} (hg : Good lens) {i : Nat} (h : i < lens.length) : cval lens i < 2 ^ 20 :=
 Nat.lt_of_lt_of_le (cval_lt lens i) (Nat.pow_le_pow_right (by decide) (hg.pos _ (getD_mem h)).2)
theorem zeros_set (n z : Nat) : (ints (List.replicate n 0)).set z (0 : Int) = ints (List.replicate n 0) := by
 unfold ints
 rw [List.map_replicate]
 refine List.ext_getElem? fun q => ?_
 rw [List.getElem?_set, List.length_replicate, List.getElem?_replicate]
 by_cases h : z = q
 . subst h; simp
 . rw [if_neg h]
theorem ints_set (l : List Nat) (i v : Nat) : (ints l).set i (v : Int) = ints (l.set i v) := by
 unfold ints; rw [List.map_set]
theorem ints_getD {l : List Nat} {i : Nat} {x : Int} (h : (ints l)[i]? = some x) : i < l.length /\ x = (l.getD i 0 : Nat) := by
 obtain ⟨n, h1, h2⟩ := ints_get h
 exact ⟨(List.getElem?_eq_some_iff.1 h1).1, by rw [List.getD_eq_getElem?_getD, h1]; exact h2⟩
theorem shr5 {k : Nat} : shrI IntKind.u32 (k : Int) (5 : Int) = ((k / 32 : Nat) : Int) := by
 rw [show (5 : Int) = ((5 : Nat) : Int) from rfl, shr32 (by decide)]
end Pc
/-
 Contracts of the reference's writing.
-/
set_option linter.unusedVariables false
set_option maxRecDepth 100000
open Go Go.Vg Go.Proofs
namespace Pc
theorem specO (G : Gl) {base : Nat -> Option (PT TT)} (hb : ∀ f pt, base f = some pt -> SpecOK (CC G) f pt) {f : Nat} {fn : Func} (hf : fnOf f = some fn) (anns : Nat -> Ann TT) (c : Ctr TT) (ann : c.X -> Ann TT)
   (h : ∀ x, c.phi x -> Met (fnx (CC G) (IN G base anns) (ann x) fn (c.args x) (c.H x) (outK false (c.H x).length (c.ret x)) (c.pan x))) : SpecOK (CC G) f c.pt := by
 obtain ⟨h1, h2, h3, h4⟩ := fnOf_ok G f fn hf
 exact ctr_okX (zok G) (inl_ok (zok G) (mixed G) hb (bodyW_ok G anns) 12) (mixed G) h1 h2 h3 h4 false c ann h
/-! put -/
structure XP where
 m : Fz
 rel : Rel TT
 b : Nat
 y : Value
 B : List Nat
def XP.H (x : XP) : List (Ent TT) := [.F x.m, .R x.rel, .B x.b 91 [.c (.o 3 5 x.y x.B.length)], .O x.y 5 (ints x.B)]
def c54 : Ctr TT where
 X := XP × Nat × Nat
 find a H := match a, H with
   | [.p 2 _ (.lit 0), .v (.int .u64 v), .v (.int .u64 n)], [.F m, .R rel, .B b 91 [.c (.o 3 5 _ _)], .O y 5 l] => some (⟨m, rel, b, y, nats l⟩, v.toNat, n.toNat)
   | _, _ => none
 phi x := x.1.B.length <= 8000000 /\ x.2.1 < 18446744073709551616 /\ x.2.2 <= 64
 args x := [.p 2 x.1.b (.lit 0), iv .u64 x.2.1, iv .u64 x.2.2]
 H x := x.1.H
 outs := [{ Y := fun _ => Value, psi := fun _ _ => True, res := fun _ _ => .t [], H := fun x y => XP.H { x.1 with y := y, B := x.1.B ++ nb x.2.1 x.2.2 } }]
noncomputable def a54 (x : XP × Nat × Nat) : Ann TT := fun r S => cond (Nat.beq r 1) (some {
   X := Nat × Value
   phi := fun i => i.1 <= x.2.2
   fr := fun i => [(6, iv .u64 i.1)]
   H := fun i => [(2, .B x.1.b 91 [.c (.o 3 5 i.2 (x.1.B.length + i.1))]), (3, .O i.2 5 (ints (x.1.B ++ nb x.2.1 i.1)))]
   mu := fun i => x.2.2 - i.1 }) none
/-! CodeOf -/
def codeS (i len val : Nat) : SV TT := .a [.c (iv .u32 i), .c (iv .u32 0), .c (iv .u32 len), .c (iv .u32 val)]
def c55 : Ctr TT where
 X := Fz × Rel TT × Value × List Nat × Nat
 find a H := match a, H with
   | [.ro 90 x k, .v (.int .u64 v)], [.F m, .R rel] => some (m, rel, x, lensOf k, v.toNat)
   | _, _ => none
 phi x := Good x.2.2.2.1 /\ x.2.2.2.2 < 18446744073709551616
 args x := [.ro 90 x.2.2.1 (canonL x.2.2.2.1), iv .u64 x.2.2.2.2]
 H x := fr2 x.1 x.2.1
 outs := [
   { Y := fun _ => Unit, psi := fun x _ => x.2.2.2.1.length <= x.2.2.2.2, res := fun x _ => .t [codeS 0 0 0, bv false], H := fun x _ => fr2 x.1 x.2.1 },
   { Y := fun _ => Unit, psi := fun x _ => x.2.2.2.2 < x.2.2.2.1.length, res := fun x _ => .t [codeS x.2.2.2.2 (x.2.2.2.1.getD x.2.2.2.2 0) (codeV x.2.2.2.1 x.2.2.2.2), bv true], H := fun x _ => fr2 x.1 x.2.1 }]
noncomputable def a55 (lens : List Nat) (v : Nat) : Ann TT := fun r S => cond (Nat.beq r 2) (some {
   X := Nat
   phi := fun i => i <= lens.length /\ i <= v
   fr := fun i => [(6, iv .i64 i)]
   H := fun i => []
   mu := fun i => lens.length - i }) none
/-! RangeOf -/
def c56 : Ctr TT where
 X := Fz × Rel TT × Value × List Nat × Nat
 find a H := match a, H with
   | [.ro 97 x k, .v (.int .u64 v)], [.F m, .R rel] => some (m, rel, x, extraOf k, v.toNat)
   | _, _ => none
 phi x := (∀ n ∈ x.2.2.2.1, n <= 20) /\ x.2.2.2.1.length <= 30 /\ x.2.2.2.2 < 18446744073709551616
 args x := [.ro 97 x.2.2.1 (rgL 0 x.2.2.2.1), iv .u64 x.2.2.2.2]
 H x := fr2 x.1 x.2.1
 outs := [
   { Y := fun _ => Unit, psi := fun x _ => rgM x.2.2.2.1 x.2.2.2.2 = none, res := fun x _ => .t [iv .u64 0, bv false], H := fun x _ => fr2 x.1 x.2.1 },
   { Y := fun _ => Nat, psi := fun x y => rgM x.2.2.2.1 x.2.2.2.2 = some y, res := fun x y => .t [iv .u64 y, bv true], H := fun x _ => fr2 x.1 x.2.1 }]
noncomputable def a56 (extra : List Nat) (v : Nat) : Ann TT := fun r S => cond (Nat.beq r 2) (some {
   X := Nat
   phi := fun i => i <= extra.length /\ ∀ j, j < i -> ¬ (sum2 (extra.take j) <= v /\ v < sum2 (extra.take (j + 1)))
   fr := fun i => [(6, iv .i64 i)]
   H := fun i => []
   mu := fun i => extra.length - i }) none
/-! packed -/
def c57 : Ctr TT where
 X := Fz × Rel TT × Value × List Nat × Bool
 find a H := match a, H with
   | [.ro 5 x l, .v (.bool big)], [.F m, .R rel] => some (m, rel, x, nats l, big)
   | _, _ => none
 phi x := x.2.2.2.1.length <= 8000000 /\ ∀ b ∈ x.2.2.2.1, b < 2
 args x := [.ro 5 x.2.2.1 (ints x.2.2.2.1), bv x.2.2.2.2]
 H x := fr2 x.1 x.2.1
 outs := [{ Y := fun _ => Value, psi := fun _ _ => True, res := fun x y => .o 2 5 y ((x.2.2.2.1.length + 7) / 8), H := fun x y => fr2 x.1 x.2.1 ++ [.O y 5 (ints (packL x.2.2.2.2 x.2.2.2.1 ((x.2.2.2.1.length + 7) / 8)))] }]
noncomputable def a57 (B : List Nat) (big : Bool) : Ann TT := fun r S => match r, S.H with
 | 3, [_, _, .O y 5 _] => some {
     X := Nat
     phi := fun i => i <= B.length
     fr := fun i => [(6, iv .i64 i)]
     H := fun i => [(2, .O y 5 (ints (packL big (B.take i) ((B.length + 7) / 8))))]
     mu := fun i => B.length - i }
 | _, _ => none
/-! WriteAll -/
structure XW where
 m : Fz
 rel : Rel TT
 vl : Value
 l : List Pt
 vc : Value
 lens : List Nat
 vr : Value
 extra : List Nat
 big : Bool
structure ssOK (rel : Rel TT) (l : List Pt) (ss : List (List Nat)) : Prop where
 len : ss.length = l.length
 ro : ∀ (i : Nat) p s, l[i]? = some p -> ss[i]? = some s -> isRo rel 5 p.s.val (ints s) /\ s.length = p.s.n /\ ∀ b ∈ s, b < 256
structure xwOK (ss : List (List Nat)) (x : XW) : Prop where
 good : Good x.lens
 el : x.extra.length <= 30
 en : ∀ n ∈ x.extra, n <= 20
 light : lightB x.l
 v : ∀ p ∈ x.l, 0 <= p.v /\ p.v < 18446744073709551616
 n : ∀ p ∈ x.l, 0 <= p.n
 ss : ssOK x.rel x.l ss
def XW.run (ss : List (List Nat)) (x : XW) : Option (List Nat) := wrM x.lens x.extra x.big (x.l.zip ss) []
def getXW (a : List (SV TT)) (H : List (Ent TT)) : Option XW := match a, H with
 | [.ro 36 vl l, .ro 90 vc k, .ro 97 vr r, .v (.bool big)], [.F m, .R rel] => some ⟨m, rel, vl, l, vc, lensOf k, vr, extraOf r, big⟩
 | _, _ => none
def XW.args (x : XW) : List (SV TT) := [.ro 36 x.vl x.l, .ro 90 x.vc (canonL x.lens), .ro 97 x.vr (rgL 0 x.extra), bv x.big]
structure YW where
 rel : Rel TT
 y : Value
 B : List Nat
structure psW (ss : List (List Nat)) (x : XW) (y : YW) : Prop where
 rel : relLe x.rel y.rel
 run : x.run ss = some y.B
 len : y.B.length <= 19200
 bit : ∀ b ∈ y.B, b < 2
def c24 (ss : List (List Nat)) : Ctr TT where
 X := XW
 find a H := getXW a H
 phi x := xwOK ss x
 args x := x.args
 H x := fr2 x.m x.rel
 outs := [
   { Y := fun _ => Rel TT, psi := fun x y => relLe x.rel y /\ x.run ss = none, res := fun x _ => .t [nilV, iv .i64 0, bv false], H := fun x y => fr2 x.m y },
   { Y := fun _ => YW, psi := fun x y => psW ss x y, res := fun x y => .t [.ro 5 y.y (ints (packL x.big y.B ((y.B.length + 7) / 8))), iv .i64 y.B.length, bv true], H := fun x y => fr2 x.m y.rel }]
structure Y24 where
 i : Nat
 y : Value
 B : List Nat
structure ph24 (ss : List (List Nat)) (x : XW) (y : Y24) : Prop where
 i : y.i <= x.l.length
 run : wrM x.lens x.extra x.big ((x.l.zip ss).take y.i) [] = some y.B
 len : y.B.length <= 320 * y.i
 bit : ∀ b ∈ y.B, b < 2
noncomputable def a24 (ss : List (List Nat)) (x : XW) : Ann TT := fun r S => match r, S.H with
 | 3, [_, _, .B b _ _] => some {
     pre := [.ownC 2 0 5]
     X := Y24
     phi := fun y => ph24 ss x y
     fr := fun y => [(12, iv .i64 y.i)]
     H := fun y => [(2, .B b 91 [.c (.o 3 5 y.y y.B.length)]), (3, .O y.y 5 (ints y.B))]
     mu := fun y => x.l.length - y.i }
 | _, _ => none
noncomputable def b24 : Nat -> Option (PT TT)
 | 48 => some (loc [some 5, none] c48.pt)
 | 54 => some (loc [none, none, none] c54.pt)
 | 55 => some (loc [some 90, none] c55.pt)
 | 56 => some (loc [some 97, none] c56.pt)
 | 57 => some (loc [some 5, none] c57.pt)
 | _ => none
end Pc
/-
 Contracts of the writer's buffers: bytes.Buffer; the writer of bits.
-/
set_option linter.unusedVariables false
set_option maxRecDepth 100000
open Go Go.Vg Go.Proofs
namespace Pc
theorem specN (G : Gl) (n0 : Nat) {base : Nat -> Option (PT TT)} (hb : ∀ f pt, base f = some pt -> SpecOK (CC G) f pt) {f : Nat} {fn : Func} (hf : fnOf f = some fn) (anns : Nat -> Ann TT) (c : Ctr TT) (ann : c.X -> Ann TT)
   (h : ∀ x, c.phi x -> Met (fnx (CC G) (IN G base anns) (ann x) fn (c.args x) (c.H x) (outK false n0 (c.ret x)) (c.pan x))) : SpecOK (CC G) f c.pt := by
 obtain ⟨h1, h2, h3, h4⟩ := fnOf_ok G f fn hf
 obtain ⟨cd, hc⟩ := Option.isSome_iff_exists.mp h3
 refine ctr_spec c (fun args w => MuLone.run_callFunc_enter h1 h2 hc args w) fun x hx w hI => ?_
 refine (fnx_ok (zok G) (inl_ok (zok G) (mixed G) hb (bodyW_ok G anns) 12) (mixed G) h1 h4 (h x hx).den hI).mono ?_
 rintro e w' (⟨r, H', rfl, hk, hH', hr, hst⟩ | ⟨r, H', rfl, hk, hH', hr, hst⟩)
 . obtain ⟨r2, H2, g1, g2, g3, g4, g5⟩ := outK_ok hk hH' hr
   exact .inl ⟨r2, H2, by rw [g1], g2, g3, g4, hst.trans g5⟩
 . exact .inr ⟨r, H', rfl, hk, hH', hr, hst⟩
/-! bytes.Buffer -/
structure BV where
 x : Value
 l : List Int
 n : Nat
 v : Value
 last : Int
structure bvOK (b : BV) : Prop where
 n : b.n <= b.l.length
 cap : capVal b.x = b.l.length
 big : b.l.length <= 9223372036854775807
def segO (h : Nat) (b : BV) : List (Seg TT) := [.c (.ov h 5 b.x 0 b.n b.v), .c (iv .i64 0), .c (.v (.int .i8 b.last))]
def BV.O (b : BV) : Ent TT := .O b.x 5 b.l
structure XB8 where
 m : Fz
 rel : Rel TT
 ob : Nat
 b : BV
 k : Nat
def XB8.H (x : XB8) (b : BV) : List (Ent TT) := [.F x.m, .R x.rel, .B x.ob 123 (segO 3 b), b.O]
def getB8 (a : List (SV TT)) (H : List (Ent TT)) : Option XB8 := match a, H with
 | [.p 2 _ (.lit 0), .v (.int .i64 k)], [.F m, .R rel, .B ob 123 [.c (.ov 3 5 _ _ n v), .c _, .c (.v (.int _ last))], .O x 5 l] => some ⟨m, rel, ob, ⟨x, l, n, v, last⟩, k.toNat⟩
 | _, _ => none
def c208 : Ctr TT where
 X := XB8
 find := getB8
 phi x := bvOK x.b /\ x.b.n + x.k <= 1000000
 args x := [.p 2 x.ob (.lit 0), iv .i64 x.k]
 H x := x.H x.b
 outs := [{ Y := fun _ => Value, psi := fun x _ => x.b.n + x.k <= x.b.l.length, res := fun x _ => .t [iv .i64 x.b.n, bv true], H := fun x v => x.H ⟨x.b.x, x.b.l, x.b.n + x.k, v, x.b.last⟩ },
   { Y := fun _ => Unit, psi := fun x _ => x.b.l.length < x.b.n + x.k, res := fun x _ => .t [iv .i64 0, bv false], H := fun x _ => x.H x.b }]
def c210 : Ctr TT where
 X := Fz × Rel TT × BV × Nat
 find a H := match a, H with
   | [.ov 2 5 _ _ n v, .v (.int .i64 k)], [.F m, .R rel, .O x 5 l] => some (m, rel, ⟨x, l, n, v, 0⟩, k.toNat)
   | _, _ => none
 phi x := bvOK x.2.2.1 /\ x.2.2.1.n + x.2.2.2 <= 1000000 /\ x.2.2.1.l.length <= 1000000 /\ 0 < x.2.2.2
 args x := [.ov 2 5 x.2.2.1.x 0 x.2.2.1.n x.2.2.1.v, iv .i64 x.2.2.2]
 H x := [.F x.1, .R x.2.1, x.2.2.1.O]
 outs := [{ Y := fun _ => BV, psi := fun x c => bvOK c /\ c.n = x.2.2.1.n /\ x.2.2.1.n + x.2.2.2 <= c.l.length /\ c.l.take c.n = x.2.2.1.l.take x.2.2.1.n, res := fun _ c => .ov 3 5 c.x 0 c.n c.v, H := fun x c => [.F x.1, .R x.2.1, x.2.2.1.O, c.O] }]
def c209 : Ctr TT where
 X := XB8
 find := getB8
 phi x := bvOK x.b /\ x.b.n + x.k <= 1000000 /\ x.b.l.length < x.b.n + x.k
 args x := [.p 2 x.ob (.lit 0), iv .i64 x.k]
 H x := x.H x.b
 outs := [{ Y := fun _ => BV, psi := fun x c => bvOK c /\ c.n = x.b.n + x.k /\ c.l.take x.b.n = x.b.l.take x.b.n, res := fun x _ => iv .i64 x.b.n, H := fun x c => x.H c }]
def invSame : Inv TT where
 X := Unit
 phi := fun _ => True
 fr := fun _ => []
 H := fun _ => []
 mu := fun _ => 0
def a209 : Ann TT := fun r _ => cond (Nat.beq r 5004 || Nat.beq r 5010) (some invSame) none
noncomputable def b209 : Nat -> Option (PT TT)
 | 208 => some (loc [none, none] c208.pt)
 | 210 => some (loc [none, none] c210.pt)
 | _ => none
noncomputable def b205 : Nat -> Option (PT TT)
 | 208 => some (loc [none, none] c208.pt)
 | 209 => some (loc [none, none] c209.pt)
 | _ => none
structure XB5 where
 m : Fz
 rel : Rel TT
 ob : Nat
 b : BV
 y : Value
 s : List Int
structure put5 (b : BV) (s : List Int) (c : BV) : Prop where
 ok : bvOK c
 n : c.n = b.n + s.length
 all : c.l.take c.n = b.l.take b.n ++ s
def c205 : Ctr TT where
 X := XB5
 find a H := match a, H with
   | [.p 2 _ (.lit 0), .ro 5 y s], [.F m, .R rel, .B ob 123 [.c (.ov 3 5 _ _ n v), .c _, .c (.v (.int _ last))], .O x 5 l] => some ⟨m, rel, ob, ⟨x, l, n, v, last⟩, y, s⟩
   | _, _ => none
 phi x := bvOK x.b /\ x.b.n + x.s.length <= 1000000
 args x := [.p 2 x.ob (.lit 0), .ro 5 x.y x.s]
 H x := [.F x.m, .R x.rel, .B x.ob 123 (segO 3 x.b), x.b.O]
 outs := [{ Y := fun _ => BV, psi := fun x c => put5 x.b x.s c, res := fun x _ => .t [iv .i64 x.s.length, .v .nilIface], H := fun x c => [.F x.m, .R x.rel, .B x.ob 123 (segO 3 c), c.O] }]
end Pc
/-
 Contracts of the writer of bits.
-/
set_option linter.unusedVariables false
set_option maxRecDepth 100000
open Go Go.Vg Go.Proofs
namespace Pc
structure WV where
 bits : Nat
 num : Nat
 arr : List Int
 cnt : Nat
structure WS where
 m : Fz
 rel : Rel TT
 wb : Nat
 ob : Nat
 big : Bool
 off : Nat
 w : WV
 b : BV
def segWr (h ob off : Nat) (big : Bool) (w : WV) : List (Seg TT) := [.c (iv .i64 off), .c (.i 130 (.p h ob (.lit 0))), .c (iv .u64 w.bits), .c (iv .u64 w.num), .c (bv big), .r 5 512 w.arr, .c (iv .i64 w.cnt)]
def WS.H (x : WS) : List (Ent TT) := [.F x.m, .R x.rel, .B x.wb 128 (segWr 3 x.ob x.off x.big x.w), .B x.ob 123 (segO 4 x.b), x.b.O]
def WS.put (x : WS) (w : WV) : WS := ⟨x.m, x.rel, x.wb, x.ob, x.big, x.off, w, x.b⟩
def WS.upd (x : WS) (off : Nat) (w : WV) (b : BV) : WS := ⟨x.m, x.rel, x.wb, x.ob, x.big, off, w, b⟩
def getWS : List (Ent TT) -> Option WS
 | [.F m, .R rel, .B wb 128 [.c (.v (.int _ off)), .c (.i 130 (.p 3 ob _)), .c (.v (.int _ bits)), .c (.v (.int _ num)), .c (.v (.bool big)), .r 5 512 arr, .c (.v (.int _ cnt))], .B _ 123 [.c (.ov 4 5 _ _ n v), .c _, .c (.v (.int _ last))], .O x 5 l] =>
   some ⟨m, rel, wb, ob, big, off.toNat, ⟨bits.toNat, num.toNat, arr, cnt.toNat⟩, ⟨x, l, n, v, last⟩⟩
 | _ => none
structure wsOK (B : List Nat) (x : WS) : Prop where
 arr : x.w.arr.length = 512
 cnt : x.w.cnt <= 512
 num : x.w.num <= 64
 bits : x.w.bits < 2 ^ x.w.num
 bv : bvOK x.b
 off : x.off = x.b.n
 rep : ∃ bs : List Nat, (∀ b ∈ bs, b < 256) /\ x.b.l.take x.b.n ++ x.w.arr.take x.w.cnt = ints bs /\ B = bitsOf x.big bs ++ nb x.w.bits x.w.num
def WV.tot (w : WV) : Nat := 8 * w.cnt + w.num
/-! PushBits -/
structure psh (B : List Nat) (x : WS) (w : WV) : Prop where
 ok : wsOK B (x.put w)
 tot : w.tot = x.w.tot
 num : w.num <= 7
 cnt : w.cnt = x.w.cnt + x.w.num / 8
def c118 (B : List Nat) : Ctr TT where
 X := WS
 find a H := match a with
   | [.p 2 _ (.lit 0)] => getWS H
   | _ => none
 phi x := wsOK B x /\ x.w.cnt <= 503
 args x := [.p 2 x.wb (.lit 0)]
 H x := x.H
 outs := [{ Y := fun _ => WV, psi := fun x w => psh B x w, res := fun x _ => .t [iv .u64 (8 * (x.w.num / 8)), .v .nilIface], H := fun x w => (x.put w).H }]
noncomputable def swp (big : Bool) (u : Nat) : Nat := if big = true then stage (stage (stage u 12297829382473034410 6148914691236517205 1) 14757395258967641292 3689348814741910323 2) 17361641481138401520 1085102592571150095 4 else u
noncomputable def a118 (x : WS) : Ann TT := fun r _ => cond (Nat.beq r 5012) (some {
   X := Unit
   phi := fun _ => True
   fr := fun _ => [(6, iv .u64 (swp x.big x.w.bits))]
   H := fun _ => []
   mu := fun _ => 0 }) none
noncomputable def bodyX (g : Nat) (ann : Nat -> Ann TT) (n : Nat) : Option (Func × Ann TT) := cond (Nat.beq n g) none (bodyW ann n)
theorem bodyX_ok (G : Gl) (g : Nat) (ann : Nat -> Ann TT) : BodyOK (CC G) (bodyX g ann) := by
 intro f fn a h
 unfold bodyX at h
 cases hb : Nat.beq f g with
 | true => rw [hb] at h; cases h
 | false => rw [hb] at h; exact bodyW_ok G ann f fn a h
theorem specX (G : Gl) (g : Nat) {base : Nat -> Option (PT TT)} (hb : ∀ f pt, base f = some pt -> SpecOK (CC G) f pt) {f : Nat} {fn : Func} (hf : fnOf f = some fn) (anns : Nat -> Ann TT) (c : Ctr TT) (ann : c.X -> Ann TT)
   (h : ∀ x, c.phi x -> Met (fnx (CC G) (inl (CC G) base (bodyX g anns) 12) (ann x) fn (c.args x) (c.H x) (outK true (c.H x).length (c.ret x)) (c.pan x))) : SpecOK (CC G) f c.pt := by
 obtain ⟨h1, h2, h3, h4⟩ := fnOf_ok G f fn hf
 exact ctr_okX (zok G) (inl_ok (zok G) (mixed G) hb (bodyX_ok G g anns) 12) (mixed G) h1 h2 h3 h4 true c ann h
end Pc
/-
 bytes.Buffer's Write.
-/
set_option linter.unusedVariables false
set_option maxRecDepth 100000
open Go Go.Vg Go.Proofs
namespace Pc
def cond_c208 (G : Gl) (x : XB8) : Prop :=
 Rf x.ob /\ Rf x.ob /\ inI64 ((↑(capVal x.b.x - 0) : Int) - (↑(x.b.n - 0) : Int)) /\ Br (decide ((x.k : Int) <= (↑(capVal x.b.x - 0) : Int) - (↑(x.b.n - 0) : Int))) (Rf x.ob /\ inI64 ((↑(x.b.n - 0) : Int) + (x.k : Int)) /\ Rf x.b.x /\ ((0 : Nat) <= x.b.n /\ x.b.n <= x.b.l.length /\ (0 : Int) <= (0 : Int) /\ (0 : Int) <= (↑(x.b.n - 0) : Int) + (x.k : Int) /\ 0 + Int.toNat ((↑(x.b.n - 0) : Int) + (x.k : Int)) <= x.b.l.length) /\ ∀ x1 : Value, Rf x.ob /\ ((∃ x2 : Value, x.b.n + x.k <= x.b.l.length /\ (↑(x.b.n - 0) : Int) = (x.b.n : Int) /\ Rf true /\ x.m = x.m /\ Rl x.rel /\ Rf x.ob /\ (Rf x.b.x /\ Rf 0 /\ 0 + Int.toNat ((↑(x.b.n - 0) : Int) + (x.k : Int)) = x.b.n + x.k /\ x1 = x2) /\ Rz /\ Rf x.b.last /\ (Rf x.b.x /\ Rf x.b.l) /\ True) \/ (∃ x2 : Unit, x.b.l.length < x.b.n + x.k /\ (↑(x.b.n - 0) : Int) = (0 : Int) /\ true = false /\ x.m = x.m /\ Rl x.rel /\ Rf x.ob /\ (Rf x.b.x /\ Rf 0 /\ 0 + Int.toNat ((↑(x.b.n - 0) : Int) + (x.k : Int)) = x.b.n /\ x1 = x.b.v) /\ Rz /\ Rf x.b.last /\ (Rf x.b.x /\ Rf x.b.l) /\ True))) (((∃ x1 : Value, x.b.n + x.k <= x.b.l.length /\ (0 : Int) = (x.b.n : Int) /\ false = true /\ x.m = x.m /\ Rl x.rel /\ Rf x.ob /\ (Rf x.b.x /\ Rf 0 /\ x.b.n = x.b.n + x.k /\ x.b.v = x1) /\ Rz /\ Rf x.b.last /\ (Rf x.b.x /\ Rf x.b.l) /\ True) \/ (∃ x1 : Unit, x.b.l.length < x.b.n + x.k /\ Rz /\ Rf false /\ x.m = x.m /\ Rl x.rel /\ Rf x.ob /\ (Rf x.b.x /\ Rf 0 /\ Rf x.b.n /\ Rf x.b.v) /\ Rz /\ Rf x.b.last /\ (Rf x.b.x /\ Rf x.b.l) /\ True)))
noncomputable def law_c208 (G : Gl) (x : XB8) : VCT := fnx (CC G) (IN G no NA) noAnn Tryz.f208 (c208.args x) (c208.H x) (outK false 4 (c208.ret x)) (c208.pan x)
theorem eq_c208 (G : Gl) (x : XB8) : cond_c208 G x = (law_c208 G x).den := by kernel_rfl
def cond_c210 (G : Gl) (m : Fz) (rel : Rel TT) (b : BV) (k : Nat) : Prop :=
 (inI64 ((↑(BV.n b - 0) : Int) + (↑k : Int))) /\ (inI64 ((2 : Int) * (↑(capVal (BV.x b) - 0) : Int))) /\ Br (decide ((↑(BV.n b - 0) : Int) + (↑k : Int) < (2 : Int) * (↑(capVal (BV.x b) - 0) : Int))) ((inI64 ((2 : Int) * (↑(capVal (BV.x b) - 0) : Int))) /\ ((0 : Int) < (2 : Int) * (↑(capVal (BV.x b) - 0) : Int) /\ room (Int.toNat ((2 : Int) * (↑(capVal (BV.x b) - 0) : Int))) 1) /\ ∀ x1 : Value × Nat, ((capVal x1.1 = Int.toNat ((2 : Int) * (↑(capVal (BV.x b) - 0) : Int)) + x1.2 /\ capVal x1.1 <= 9223372036854775807) -> (Rf x1.1 /\ 0 <= Int.toNat ((2 : Int) * (↑(capVal (BV.x b) - 0) : Int)) /\ Int.toNat ((2 : Int) * (↑(capVal (BV.x b) - 0) : Int)) <= List.length (List.replicate (Int.toNat ((2 : Int) * (↑(capVal (BV.x b) - 0) : Int)) + x1.2) (0 : Int))) /\ (Rf (BV.x b) /\ 0 <= BV.n b /\ BV.n b <= List.length (BV.l b)) /\ Rf x1.1 /\ ((0 : Nat) <= Int.toNat ((2 : Int) * (↑(capVal (BV.x b) - 0) : Int)) /\ Int.toNat ((2 : Int) * (↑(capVal (BV.x b) - 0) : Int)) <= List.length (List.take 0 (List.replicate (Int.toNat ((2 : Int) * (↑(capVal (BV.x b) - 0) : Int)) + x1.2) (0 : Int)) ++ List.take (min (List.length (List.drop 0 (List.take (BV.n b) (BV.l b)))) (Int.toNat ((2 : Int) * (↑(capVal (BV.x b) - 0) : Int)) - 0)) (List.drop 0 (List.take (BV.n b) (BV.l b))) ++ List.drop ((0 : Nat) + min (List.length (List.drop 0 (List.take (BV.n b) (BV.l b)))) (Int.toNat ((2 : Int) * (↑(capVal (BV.x b) - 0) : Int)) - 0)) (List.replicate (Int.toNat ((2 : Int) * (↑(capVal (BV.x b) - 0) : Int)) + x1.2) (0 : Int))) /\ (0 : Int) <= (0 : Int) /\ (0 : Int) <= (↑(min (List.length (List.drop 0 (List.take (BV.n b) (BV.l b)))) (Int.toNat ((2 : Int) * (↑(capVal (BV.x b) - 0) : Int)) - 0)) : Int) /\ 0 + (min (List.length (List.drop 0 (List.take (BV.n b) (BV.l b)))) (Int.toNat ((2 : Int) * (↑(capVal (BV.x b) - 0) : Int)) - 0)) <= List.length (List.take 0 (List.replicate (Int.toNat ((2 : Int) * (↑(capVal (BV.x b) - 0) : Int)) + x1.2) (0 : Int)) ++ List.take (min (List.length (List.drop 0 (List.take (BV.n b) (BV.l b)))) (Int.toNat ((2 : Int) * (↑(capVal (BV.x b) - 0) : Int)) - 0)) (List.drop 0 (List.take (BV.n b) (BV.l b))) ++ List.drop ((0 : Nat) + min (List.length (List.drop 0 (List.take (BV.n b) (BV.l b)))) (Int.toNat ((2 : Int) * (↑(capVal (BV.x b) - 0) : Int)) - 0)) (List.replicate (Int.toNat ((2 : Int) * (↑(capVal (BV.x b) - 0) : Int)) + x1.2) (0 : Int)))) /\ ∀ x2 : Value, ∃ x3 : BV, (bvOK x3 /\ x3.n = BV.n b /\ BV.n b + k <= x3.l.length /\ List.take x3.n x3.l = List.take (BV.n b) (BV.l b)) /\ (x1.1 = x3.x /\ Rf 0 /\ 0 + (min (List.length (List.drop 0 (List.take (BV.n b) (BV.l b)))) (Int.toNat ((2 : Int) * (↑(capVal (BV.x b) - 0) : Int)) - 0)) = x3.n /\ x2 = x3.v) /\ m = m /\ relLe rel rel /\ (Rf (BV.x b) /\ Rf (BV.l b)) /\
 (x1.1 = x3.x /\ List.take 0 (List.replicate (Int.toNat ((2 : Int) * (↑(capVal (BV.x b) - 0) : Int)) + x1.2) (0 : Int)) ++ List.take (min (List.length (List.drop 0 (List.take (BV.n b) (BV.l b)))) (Int.toNat ((2 : Int) * (↑(capVal (BV.x b) - 0) : Int)) - 0)) (List.drop 0 (List.take (BV.n b) (BV.l b))) ++ List.drop ((0 : Nat) + min (List.length (List.drop 0 (List.take (BV.n b) (BV.l b)))) (Int.toNat ((2 : Int) * (↑(capVal (BV.x b) - 0) : Int)) - 0)) (List.replicate (Int.toNat ((2 : Int) * (↑(capVal (BV.x b) - 0) : Int)) + x1.2) (0 : Int)) = x3.l) /\ True)) (((0 : Int) < (↑(BV.n b - 0) : Int) + (↑k : Int) /\ room (Int.toNat ((↑(BV.n b - 0) : Int) + (↑k : Int))) 1) /\ ∀ x1 : Value × Nat, ((capVal x1.1 = Int.toNat ((↑(BV.n b - 0) : Int) + (↑k : Int)) + x1.2 /\ capVal x1.1 <= 9223372036854775807) -> (Rf x1.1 /\ 0 <= Int.toNat ((↑(BV.n b - 0) : Int) + (↑k : Int)) /\ Int.toNat ((↑(BV.n b - 0) : Int) + (↑k : Int)) <= List.length (List.replicate (Int.toNat ((↑(BV.n b - 0) : Int) + (↑k : Int)) + x1.2) (0 : Int))) /\ (Rf (BV.x b) /\ 0 <= BV.n b /\ BV.n b <= List.length (BV.l b)) /\ Rf x1.1 /\ ((0 : Nat) <= Int.toNat ((↑(BV.n b - 0) : Int) + (↑k : Int)) /\ Int.toNat ((↑(BV.n b - 0) : Int) + (↑k : Int)) <= List.length (List.take 0 (List.replicate (Int.toNat ((↑(BV.n b - 0) : Int) + (↑k : Int)) + x1.2) (0 : Int)) ++ List.take (min (List.length (List.drop 0 (List.take (BV.n b) (BV.l b)))) (Int.toNat ((↑(BV.n b - 0) : Int) + (↑k : Int)) - 0)) (List.drop 0 (List.take (BV.n b) (BV.l b))) ++ List.drop ((0 : Nat) + min (List.length (List.drop 0 (List.take (BV.n b) (BV.l b)))) (Int.toNat ((↑(BV.n b - 0) : Int) + (↑k : Int)) - 0)) (List.replicate (Int.toNat ((↑(BV.n b - 0) : Int) + (↑k : Int)) + x1.2) (0 : Int))) /\ (0 : Int) <= (0 : Int) /\ (0 : Int) <= (↑(min (List.length (List.drop 0 (List.take (BV.n b) (BV.l b)))) (Int.toNat ((↑(BV.n b - 0) : Int) + (↑k : Int)) - 0)) : Int) /\ 0 + (min (List.length (List.drop 0 (List.take (BV.n b) (BV.l b)))) (Int.toNat ((↑(BV.n b - 0) : Int) + (↑k : Int)) - 0)) <= List.length (List.take 0 (List.replicate (Int.toNat ((↑(BV.n b - 0) : Int) + (↑k : Int)) + x1.2) (0 : Int)) ++ List.take (min (List.length (List.drop 0 (List.take (BV.n b) (BV.l b)))) (Int.toNat ((↑(BV.n b - 0) : Int) + (↑k : Int)) - 0)) (List.drop 0 (List.take (BV.n b) (BV.l b))) ++ List.drop ((0 : Nat) + min (List.length (List.drop 0 (List.take (BV.n b) (BV.l b)))) (Int.toNat ((↑(BV.n b - 0) : Int) + (↑k : Int)) - 0)) (List.replicate (Int.toNat ((↑(BV.n b - 0) : Int) + (↑k : Int)) + x1.2) (0 : Int)))) /\ ∀ x2 : Value, ∃ x3 : BV, (bvOK x3 /\ x3.n = BV.n b /\ BV.n b + k <= x3.l.length /\ List.take x3.n x3.l = List.take (BV.n b) (BV.l b)) /\ (x1.1 = x3.x /\ Rf 0 /\ 0 + (min (List.length (List.drop 0 (List.take (BV.n b) (BV.l b)))) (Int.toNat ((↑(BV.n b - 0) : Int) + (↑k : Int)) - 0)) = x3.n /\ x2 = x3.v) /\ m = m /\ relLe rel rel /\ (Rf (BV.x b) /\ Rf (BV.l b)) /\
 (x1.1 = x3.x /\ List.take 0 (List.replicate (Int.toNat ((↑(BV.n b - 0) : Int) + (↑k : Int)) + x1.2) (0 : Int)) ++ List.take (min (List.length (List.drop 0 (List.take (BV.n b) (BV.l b)))) (Int.toNat ((↑(BV.n b - 0) : Int) + (↑k : Int)) - 0)) (List.drop 0 (List.take (BV.n b) (BV.l b))) ++ List.drop ((0 : Nat) + min (List.length (List.drop 0 (List.take (BV.n b) (BV.l b)))) (Int.toNat ((↑(BV.n b - 0) : Int) + (↑k : Int)) - 0)) (List.replicate (Int.toNat ((↑(BV.n b - 0) : Int) + (↑k : Int)) + x1.2) (0 : Int)) = x3.l) /\ True))
noncomputable def law_c210 (G : Gl) (m : Fz) (rel : Rel TT) (b : BV) (k : Nat) : VCT := fnxD (CC G) (IN G no NA) (inlR (CC G) no (bodyW NA) 12) noAnn Tryz.f210 (c210.args (m, rel, b, k)) (c210.H (m, rel, b, k)) (outK false 3 (c210.ret (m, rel, b, k))) (c210.pan (m, rel, b, k))
theorem eq_c210 (G : Gl) (m : Fz) (rel : Rel TT) (b : BV) (k : Nat) : cond_c210 G m rel b k = (law_c210 G m rel b k).den := by kernel_rfl
def cond_c209 (G : Gl) (x : XB8) : Prop :=
 Rf x.ob /\ Rf x.ob /\ inI64 ((↑(x.b.n - 0) : Int) - (0 : Int)) /\ (Br ((↑(x.b.n - 0) : Int) - (0 : Int) == (0 : Int)) (Rf x.ob /\ ∃ x1 : Unit, True /\ x.m = x.m /\ Rl x.rel /\ Rf x.ob /\ (Rf x.b.x /\ Rf 0 /\ Rf x.b.n /\ Rf x.b.v) /\ Rz /\ Rf x.b.last /\ (Rf x.b.x /\ Rf x.b.l) /\ True) (∃ x1 : Unit, True /\ x.m = x.m /\ Rl x.rel /\ Rf x.ob /\ (Rf x.b.x /\ Rf 0 /\ Rf x.b.n /\ Rf x.b.v) /\ Rz /\ Rf x.b.last /\ (Rf x.b.x /\ Rf x.b.l) /\ True)) /\ (∀ x1 : Unit, (True -> ∀ x2 : Fz, (bvOK x.b /\ x.b.n + x.k <= 1000000) /\ (Rf x.ob /\ Ro) /\ Rf (x.k : Int) /\ x2 = x2 /\ Rl x.rel /\ Rf x.ob /\ (Rf x.b.x /\ Rf 0 /\ Rf x.b.n /\ Rf x.b.v) /\ Rz /\ Rf x.b.last /\ (Rf x.b.x /\ Rf x.b.l) /\ (∀ x3 : Value, ((x.b.n + x.k <= x.b.l.length) -> x2 = x2 /\ ∃ x4 : BV, (bvOK x4 /\ x4.n = x.b.n + x.k /\ List.take x.b.n x4.l = List.take x.b.n x.b.l) /\ Rf (x.b.n : Int) /\ x.m = x.m /\ Rl x.rel /\ Rf x.ob /\ (x.b.x = x4.x /\ Rf 0 /\ x.b.n + x.k = x4.n /\ x3 = x4.v) /\ Rz /\ x.b.last = x4.last /\ (x.b.x = x4.x /\ x.b.l = x4.l) /\ True)) /\ (∀ x3 : Unit, ((x.b.l.length < x.b.n + x.k) -> x2 = x2 /\ (Rf x.ob /\ ((BV.x (XB8.b (XB8.mk x2 x.rel x.ob x.b x.k)) = BV.x (XB8.b (XB8.mk x2 x.rel x.ob x.b x.k)) -> (0 : Nat) = 0 -> (0 : Nat) < List.length (BV.l (XB8.b (XB8.mk x2 x.rel x.ob x.b x.k))) -> nilB (BV.v (XB8.b (XB8.mk x2 x.rel x.ob x.b x.k))) = false) -> Br (nilB (SV.toV (T := TT) (SV.ov 3 5 x.b.x 0 x.b.n x.b.v))) (Br (decide ((x.k : Int) <= (64 : Int))) (((0 : Int) <= (x.k : Int) /\ (x.k : Int) <= (64 : Int) /\ room 64 1) /\ ∀ x4 : Value, ((capVal x4 = 64) -> Rf x.ob /\ ∃ x5 : BV, (bvOK x5 /\ x5.n = x.b.n + x.k /\ List.take x.b.n x5.l = List.take x.b.n x.b.l) /\ (0 : Int) = (x.b.n : Int) /\ x.m = x.m /\ relLe x.rel (relAdd x.rel 5 x.b.x x.b.l) /\ Rf x.ob /\ (x4 = x5.x /\ Rf 0 /\ x.k = x5.n /\ sliceVal x4 0 x.k 1 = x5.v) /\ Rz /\ x.b.last = x5.last /\ (x4 = x5.x /\ List.replicate 64 (0 : Int) = x5.l) /\ True)) (∃ x4 : Unit, True /\ x.m = x.m /\ Rl x.rel /\ Rf x.ob /\ (Rf x.b.x /\ Rf 0 /\ Rf x.b.n /\ Rf x.b.v) /\ Rz /\ Rf x.b.last /\ (Rf x.b.x /\ Rf x.b.l) /\ True)) (∃ x4 : Unit, True /\ x.m = x.m /\ Rl x.rel /\ Rf x.ob /\ (Rf x.b.x /\ Rf 0 /\ Rf x.b.n /\ Rf x.b.v) /\ Rz /\ Rf x.b.last /\ (Rf x.b.x /\ Rf x.b.l) /\ True))) /\ (∀ x4 : Unit, (True -> Rf x.ob /\ (2 : Int) ≠ (0 : Int) /\ inI64 (IntKind.wrap IntKind.i64 (Int.tdiv (↑(capVal x.b.x - 0) : Int) (2 : Int)) - ((↑(x.b.n - 0) : Int) - (0 : Int))) /\ Br (decide ((x.k : Int) <= IntKind.wrap IntKind.i64 (Int.tdiv (↑(capVal x.b.x - 0) : Int) (2 : Int)) - ((↑(x.b.n - 0) : Int) - (0 : Int)))) (Rf x.ob /\ Rf x.ob /\ Rf x.ob /\ Rf x.b.x /\ ((0 : Nat) <= x.b.n /\ x.b.n <= x.b.l.length /\ (0 : Int) <= (0 : Int) /\ (0 : Int) <= (↑(x.b.n - 0) : Int) /\ 0 + (x.b.n - 0) <= x.b.l.length) /\ ∀ x5 : Value, (Rf x.b.x /\ 0 <= x.b.n /\ x.b.n <= x.b.l.length) /\ (Rf x.b.x /\ 0 <= 0 + (x.b.n - 0) /\ 0 + (x.b.n - 0) <= x.b.l.length) /\ Rf x.ob /\ Rf x.ob /\ inI64 ((↑(x.b.n - 0) : Int) - (0 : Int) + (x.k : Int)) /\
 Rf x.b.x /\ ((0 : Nat) <= x.b.n /\ x.b.n <= List.length (List.take 0 x.b.l ++ List.take (min (List.length (List.drop 0 (List.take ((0 : Nat) + (x.b.n - 0)) x.b.l))) (x.b.n - 0)) (List.drop 0 (List.take ((0 : Nat) + (x.b.n - 0)) x.b.l)) ++ List.drop ((0 : Nat) + min (List.length (List.drop 0 (List.take ((0 : Nat) + (x.b.n - 0)) x.b.l))) (x.b.n - 0)) x.b.l) /\ (0 : Int) <= (0 : Int) /\ (0 : Int) <= (↑(x.b.n - 0) : Int) - (0 : Int) + (x.k : Int) /\ 0 + Int.toNat ((↑(x.b.n - 0) : Int) - (0 : Int) + (x.k : Int)) <= List.length (List.take 0 x.b.l ++ List.take (min (List.length (List.drop 0 (List.take ((0 : Nat) + (x.b.n - 0)) x.b.l))) (x.b.n - 0)) (List.drop 0 (List.take ((0 : Nat) + (x.b.n - 0)) x.b.l)) ++ List.drop ((0 : Nat) + min (List.length (List.drop 0 (List.take ((0 : Nat) + (x.b.n - 0)) x.b.l))) (x.b.n - 0)) x.b.l)) /\ ∀ x6 : Value, Rf x.ob /\ ∃ x7 : BV, (bvOK x7 /\ x7.n = x.b.n + x.k /\ List.take x.b.n x7.l = List.take x.b.n x.b.l) /\ (↑(x.b.n - 0) : Int) - (0 : Int) = (x.b.n : Int) /\ x.m = x.m /\ Rl x.rel /\ Rf x.ob /\ (x.b.x = x7.x /\ Rf 0 /\ 0 + Int.toNat ((↑(x.b.n - 0) : Int) - (0 : Int) + (x.k : Int)) = x7.n /\ x6 = x7.v) /\ Rz /\ x.b.last = x7.last /\ (x.b.x = x7.x /\ List.take 0 x.b.l ++ List.take (min (List.length (List.drop 0 (List.take ((0 : Nat) + (x.b.n - 0)) x.b.l))) (x.b.n - 0)) (List.drop 0 (List.take ((0 : Nat) + (x.b.n - 0)) x.b.l)) ++ List.drop ((0 : Nat) + min (List.length (List.drop 0 (List.take ((0 : Nat) + (x.b.n - 0)) x.b.l))) (x.b.n - 0)) x.b.l = x7.l) /\ True) (inI64 ((9223372036854775807 : Int) - (↑(capVal x.b.x - 0) : Int)) /\ inI64 ((9223372036854775807 : Int) - (↑(capVal x.b.x - 0) : Int) - (x.k : Int)) /\ Br (decide ((↑(capVal x.b.x - 0) : Int) > (9223372036854775807 : Int) - (↑(capVal x.b.x - 0) : Int) - (x.k : Int))) (False /- "load: an unknown variable" -/) (Rf x.ob /\ Rf x.ob /\ Rf x.b.x /\ ((0 : Nat) <= x.b.n /\ x.b.n <= x.b.l.length /\ (0 : Int) <= (0 : Int) /\ (0 : Int) <= (↑(x.b.n - 0) : Int) /\ 0 + (x.b.n - 0) <= x.b.l.length) /\ ∀ x5 : Value, Rf x.ob /\ inI64 ((0 : Int) + (x.k : Int)) /\ ∀ x6 : Fz, (bvOK (BV.mk x.b.x x.b.l ((0 : Nat) + (x.b.n - 0)) x5 (0 : Int)) /\ 0 + (x.b.n - 0) + Int.toNat ((0 : Int) + (x.k : Int)) <= 1000000 /\ x.b.l.length <= 1000000 /\ 0 < Int.toNat ((0 : Int) + (x.k : Int))) /\ (Rf x.b.x /\ Rf 0 /\ Rf ((0 : Nat) + (x.b.n - 0)) /\ x5 = x5) /\ ((0 : Int) + (x.k : Int) = (↑(Int.toNat ((0 : Int) + (x.k : Int))) : Int)) /\ x6 = x6 /\ Rl x.rel /\ (Rf x.b.x /\ Rf x.b.l) /\ ∀ x7 : BV, ((bvOK x7 /\ x7.n = 0 + (x.b.n - 0) /\ 0 + (x.b.n - 0) + Int.toNat ((0 : Int) + (x.k : Int)) <= x7.l.length /\ List.take x7.n x7.l = List.take ((0 : Nat) + (x.b.n - 0)) x.b.l) -> x6 = x6 /\ Rf (SV.toV (T := TT) (SV.p 2 x.ob (Off.lit 0))) /\ Rf x.ob /\ Rf x.ob /\ Rf x.ob /\ inI64 ((↑(x.b.n - 0) : Int) - (0 : Int) + (x.k : Int)) /\ Rf x7.x /\ ((0 : Nat) <= x7.n /\ x7.n <= x7.l.length /\ (0 : Int) <= (0 : Int) /\ (0 : Int) <= (↑(x.b.n - 0) : Int) - (0 : Int) + (x.k : Int) /\ 0 + Int.toNat ((↑(x.b.n - 0) : Int) - (0 : Int) + (x.k : Int)) <= x7.l.length) /\ ∀ x8 : Value, Rf x.ob /\
 ∃ x9 : BV, (bvOK x9 /\ x9.n = x.b.n + x.k /\ List.take x.b.n x9.l = List.take x.b.n x.b.l) /\ (↑(x.b.n - 0) : Int) - (0 : Int) = (x.b.n : Int) /\ x.m = x.m /\ relLe x.rel (relAdd x.rel 5 x.b.x x.b.l) /\ Rf x.ob /\ (x7.x = x9.x /\ Rf 0 /\ 0 + Int.toNat ((↑(x.b.n - 0) : Int) - (0 : Int) + (x.k : Int)) = x9.n /\ x8 = x9.v) /\ Rz /\ x.b.last = x9.last /\ (x7.x = x9.x /\ x7.l = x9.l) /\ True)))))))))
noncomputable def law_c209 (G : Gl) (x : XB8) : VCT := fnx (CC G) (IN G b209 NA) a209 Tryz.f209 (c209.args x) (c209.H x) (outK false 3 (c209.ret x)) (c209.pan x)
theorem eq_c209 (G : Gl) (x : XB8) : cond_c209 G x = (law_c209 G x).den := by kernel_rfl
def cond_c205 (G : Gl) (x : XB5) : Prop :=
 Rf x.ob /\ ∀ x1 : Fz, (bvOK (BV.mk x.b.x x.b.l x.b.n x.b.v (0 : Int)) /\ x.b.n + x.s.length <= 1000000) /\ (Rf x.ob /\ Ro) /\ Rf (x.s.length : Int) /\ x1 = x1 /\ Rl x.rel /\ Rf x.ob /\ (Rf x.b.x /\ Rf 0 /\ Rf x.b.n /\ Rf x.b.v) /\ Rz /\ Rz /\ (Rf x.b.x /\ Rf x.b.l) /\ (∀ x2 : Value, ((x.b.n + x.s.length <= x.b.l.length) -> x1 = x1 /\ Rf x.ob /\ Rf x.b.x /\ ((0 : Nat) <= x.b.n + x.s.length /\ x.b.n + x.s.length <= x.b.l.length /\ (0 : Int) <= (x.b.n : Int) /\ (x.b.n : Int) <= (↑(x.b.n + x.s.length - 0) : Int) /\ 0 + (x.b.n + x.s.length - 0) <= x.b.l.length) /\ ∀ x3 : Value, (Rf x.b.x /\ 0 + x.b.n <= 0 + (x.b.n + x.s.length - 0) /\ 0 + (x.b.n + x.s.length - 0) <= x.b.l.length) /\ ∃ x4 : BV, put5 x.b x.s x4 /\ ((↑(min x.s.length ((0 : Nat) + (x.b.n + x.s.length - 0) - ((0 : Nat) + x.b.n))) : Int) = (x.s.length : Int)) /\ Rf Value.nilIface /\ x.m = x.m /\ Rl x.rel /\ Rf x.ob /\ (x.b.x = x4.x /\ Rf 0 /\ x.b.n + x.s.length = x4.n /\ x2 = x4.v) /\ Rz /\ (0 : Int) = x4.last /\ (x.b.x = x4.x /\ List.take ((0 : Nat) + x.b.n) x.b.l ++ List.take (min x.s.length ((0 : Nat) + (x.b.n + x.s.length - 0) - ((0 : Nat) + x.b.n))) x.s ++ List.drop ((0 : Nat) + x.b.n + min x.s.length ((0 : Nat) + (x.b.n + x.s.length - 0) - ((0 : Nat) + x.b.n))) x.b.l = x4.l) /\ True)) /\ (∀ x2 : Unit, ((x.b.l.length < x.b.n + x.s.length) -> x1 = x1 /\ ∀ x3 : Fz, (bvOK (BV.mk x.b.x x.b.l x.b.n x.b.v (0 : Int)) /\ x.b.n + x.s.length <= 1000000 /\ x.b.l.length < x.b.n + x.s.length) /\ (Rf x.ob /\ Ro) /\ Rf (x.s.length : Int) /\ x3 = x3 /\ Rl x.rel /\ Rf x.ob /\ (Rf x.b.x /\ Rf 0 /\ Rf x.b.n /\ Rf x.b.v) /\ Rz /\ Rz /\ (Rf x.b.x /\ Rf x.b.l) /\ ∀ x4 : BV, ((bvOK x4 /\ x4.n = x.b.n + x.s.length /\ List.take x.b.n x4.l = List.take x.b.n x.b.l) -> x3 = x3 /\ Rf x.ob /\ Rf x4.x /\ ((0 : Nat) <= x4.n /\ x4.n <= x4.l.length /\ (0 : Int) <= (x.b.n : Int) /\ (x.b.n : Int) <= (↑(x4.n - 0) : Int) /\ 0 + (x4.n - 0) <= x4.l.length) /\ ∀ x5 : Value, (Rf x4.x /\ 0 + x.b.n <= 0 + (x4.n - 0) /\ 0 + (x4.n - 0) <= x4.l.length) /\ ∃ x6 : BV, put5 x.b x.s x6 /\ ((↑(min x.s.length ((0 : Nat) + (x4.n - 0) - ((0 : Nat) + x.b.n))) : Int) = (x.s.length : Int)) /\ Rf Value.nilIface /\ x.m = x.m /\ Rl x.rel /\ Rf x.ob /\ (x4.x = x6.x /\ Rf 0 /\ x4.n = x6.n /\ x4.v = x6.v) /\ Rz /\ x4.last = x6.last /\ (x4.x = x6.x /\ List.take ((0 : Nat) + x.b.n) x4.l ++ List.take (min x.s.length ((0 : Nat) + (x4.n - 0) - ((0 : Nat) + x.b.n))) x.s ++ List.drop ((0 : Nat) + x.b.n + min x.s.length ((0 : Nat) + (x4.n - 0) - ((0 : Nat) + x.b.n))) x4.l = x6.l) /\ True)))
noncomputable def law_c205 (G : Gl) (x : XB5) : VCT := fnx (CC G) (IN G b205 NA) noAnn Tryz.f205 (c205.args x) (c205.H x) (outK false 3 (c205.ret x)) (c205.pan x)
theorem eq_c205 (G : Gl) (x : XB5) : cond_c205 G x = (law_c205 G x).den := by kernel_rfl
theorem bv_of {b : BV} (h : bvOK b) {n : Nat} (hn : n <= b.l.length) (v : Value) (k : Int) : bvOK ⟨b.x, b.l, n, v, k⟩ := ⟨hn, h.cap, h.big⟩
theorem ok_c208 (G : Gl) (x : XB8) (h : bvOK x.b /\ x.b.n + x.k <= 1000000) : cond_c208 G x := by
 unfold cond_c208
 obtain ⟨h, h2⟩ := h
 have hc := h.cap
 have hn := h.n
 have hb := h.big
 simp only [br_d, rel_self, true_and, and_true, inI64, Nat.sub_zero, hc]
 refine ⟨by omega, fun h1 => ⟨by omega, ⟨by omega, by omega, by omega, by omega⟩, fun v => .inl ⟨v, by omega, ⟨by omega, rfl⟩⟩⟩, fun h1 => .inr ⟨(), by omega⟩⟩
theorem ok_c210 (G : Gl) (m : Fz) (rel : Rel TT) (b : BV) (k : Nat) (h : c210.phi (m, rel, b, k)) : cond_c210 G m rel b k := by
 unfold cond_c210
 obtain ⟨h, h2, h3, h4⟩ := h
 have hc := h.cap
 have hn := h.n
 have hb := h.big
 dsimp only at hc hn hb h2 h3 h4
 have key : ∀ (c : Nat) (y : Value × Nat), b.n + k <= c -> capVal y.1 = c + y.2 /\ capVal y.1 <= 9223372036854775807 -> ∀ v : Value,
     ∃ x3 : BV, (bvOK x3 /\ x3.n = b.n /\ b.n + k <= x3.l.length /\ x3.l.take x3.n = b.l.take b.n) /\ (y.1 = x3.x /\ b.n = x3.n /\ v = x3.v) /\ y.1 = x3.x /\ (b.l.take b.n).take b.n ++ (List.replicate (c + y.2) (0 : Int)).drop b.n = x3.l := by
   intro c y hle hy v
   have hl : ((b.l.take b.n).take b.n ++ (List.replicate (c + y.2) (0 : Int)).drop b.n).length = c + y.2 := by
     rw [List.length_append, List.length_take, List.length_take, List.length_drop, List.length_replicate]; omega
   refine ⟨⟨y.1, _, b.n, v, 0⟩, ⟨⟨?_, ?_, ?_⟩, rfl, ?_, ?_⟩, ⟨rfl, rfl, rfl⟩, rfl, rfl⟩
   . dsimp only; rw [hl]; omega
   . dsimp only; rw [hl]; exact hy.1
   . dsimp only; rw [hl]; omega
   . dsimp only; rw [hl]; omega
   . dsimp only
     rw [List.take_left' (by rw [List.length_take, List.length_take]; omega), List.take_take, Nat.min_self]
 have e1 : min (min b.n b.l.length) (2 * (b.l.length : Int)).toNat = b.n \/ ¬ ((b.n : Int) + k < 2 * (b.l.length : Int)) := by omega
 have e2 : min (min b.n b.l.length) ((b.n : Int) + k).toNat = b.n := by omega
 simp only [br_d, rel_self, true_and, and_true, inI64, Nat.sub_zero, hc, List.length_replicate, List.drop_zero, List.length_take, List.take_zero, List.nil_append, Nat.zero_add, e2, Int.toNat_natCast, List.length_append, List.length_drop]
 refine ⟨by omega, by omega, fun h1 => ?_, fun h1 => ⟨⟨by omega, by unfold room; omega⟩, fun y hy => ⟨by omega, by omega, by omega, fun v => key _ y (by omega) hy v⟩⟩⟩
 have e1 : min (min b.n b.l.length) (2 * (b.l.length : Int)).toNat = b.n := by omega
 simp only [e1]
 exact ⟨by omega, ⟨by omega, by unfold room; omega⟩, fun y hy => ⟨by omega, by omega, by omega, fun v => key _ y (by omega) hy v⟩⟩
theorem ok_c209 (G : Gl) (x : XB8) (h : c209.phi x) : cond_c209 G x := by
 unfold cond_c209
 obtain ⟨h, h2, h3⟩ := h
 have hc := h.cap
 have hn := h.n
 have hb := h.big
 have t1 : Int.tdiv (x.b.l.length : Int) 2 = ((x.b.l.length / 2 : Nat) : Int) := by rw [Int.tdiv_eq_ediv_of_nonneg (by omega)]; omega
 have t2 : IntKind.i64.wrap ((x.b.l.length / 2 : Nat) : Int) = ((x.b.l.length / 2 : Nat) : Int) := wrI (by omega) (by omega)
 have e0 : (0 : Int) + (x.k : Int) = x.k := by omega
 simp only [br_d, br_i, rel_self, true_and, and_true, inI64, Nat.sub_zero, hc, List.drop_zero, List.length_take, List.take_zero, List.nil_append, Nat.zero_add, Int.toNat_natCast, Int.sub_zero, t1, t2, e0]
 refine ⟨by omega, ⟨fun _ => ⟨(), trivial⟩, fun _ => ⟨(), trivial⟩⟩, fun _ _ _ => ⟨⟨bv_of h hn _ _, by omega⟩, fun _ hle => absurd hle (by omega), fun _ hlt => ⟨fun ha => br_mk (fun hb => ⟨fun hk => ?_, fun hk => ⟨(), trivial⟩⟩) (fun hb => ⟨(), trivial⟩), fun _ _ => ?_⟩⟩⟩
 . have hl0 : x.b.l.length = 0 := by
     rcases Nat.eq_zero_or_pos x.b.l.length with h | h
     . exact h
     . exact absurd (ha trivial trivial h) (by simp only [SV.toV] at hb; simp [hb])
   exact ⟨⟨by omega, by omega, by unfold room; omega⟩, fun v hv => ⟨⟨v, List.replicate 64 0, x.k, sliceVal v 0 x.k 1, x.b.last⟩, ⟨⟨by simp; omega, by simpa using hv, by simp⟩, by dsimp only; omega, by rw [show x.b.n = 0 by omega]; rfl⟩, by omega, relLe.add _ _ _ _, ⟨rfl, rfl, rfl⟩, rfl, rfl, rfl⟩⟩
 . exact ⟨by decide, by omega, fun hs => by omega, fun hs => ⟨by omega, by omega, fun hz => by omega, fun hz => ⟨by omega, fun v3 => ⟨by omega, fun m4 => ⟨⟨bv_of h hn _ _, by omega, by omega, by omega⟩, fun c hc => ⟨by omega, by omega, fun v6 => ⟨⟨c.x, c.l, x.b.n + x.k, v6, x.b.last⟩, ⟨bv_of hc.1 hc.2.2.1 _ _, rfl, by have := hc.2.2.2; rw [hc.2.1] at this; exact this⟩, relLe.add _ _ _ _, ⟨rfl, by dsimp only; omega, rfl⟩, rfl, rfl, rfl⟩⟩⟩⟩⟩⟩⟩
theorem ok_c205 (G : Gl) (x : XB5) (h : c205.phi x) : cond_c205 G x := by
 unfold cond_c205
 obtain ⟨h, h2⟩ := h
 have hn := h.n
 have key : ∀ c : BV, bvOK c -> c.n = x.b.n + x.s.length -> c.l.take x.b.n = x.b.l.take x.b.n ->
     ∃ d : BV, put5 x.b x.s d /\ (c.x = d.x /\ c.n = d.n /\ c.v = d.v) /\ c.last = d.last /\ c.x = d.x /\ c.l.take x.b.n ++ x.s.take x.s.length ++ c.l.drop (x.b.n + x.s.length) = d.l := by
   intro c hc h3 h4
   have c1 := hc.n
   have c2 := hc.cap
   have c3 := hc.big
   have hl : (c.l.take x.b.n ++ x.s.take x.s.length ++ c.l.drop (x.b.n + x.s.length)).length = c.l.length := by
     simp only [List.length_append, List.length_take, List.length_drop]; omega
   refine ⟨⟨c.x, c.l.take x.b.n ++ x.s.take x.s.length ++ c.l.drop (x.b.n + x.s.length), c.n, c.v, c.last⟩, ⟨⟨?_, ?_, ?_⟩, h3, ?_⟩, ⟨rfl, rfl, rfl⟩, rfl, rfl, rfl⟩
   . dsimp only; rw [hl]; exact c1
   . dsimp only; rw [hl]; exact c2
   . dsimp only; rw [hl]; exact c3
   . dsimp only
     rw [List.take_left' (by simp only [List.length_append, List.length_take]; omega), h4, List.take_length]
 have e1 : min x.s.length (x.b.n + x.s.length - x.b.n) = x.s.length := by omega
 simp only [rel_self, true_and, and_true, Nat.sub_zero, Nat.zero_add, Int.toNat_natCast, e1]
 refine fun _ => ⟨⟨bv_of h hn _ _, h2⟩, fun v hle => ⟨by omega, fun _ => ⟨by omega, key ⟨x.b.x, x.b.l, x.b.n + x.s.length, v, 0⟩ (bv_of h hle _ _) rfl rfl⟩⟩, fun _ hlt _ => ⟨⟨bv_of h hn _ _, h2, hlt⟩, fun c hc => ?_⟩⟩
 have c1 := hc.1.n
 have c2 := hc.2.1
 have e2 : min x.s.length (c.n - x.b.n) = x.s.length := by omega
 simp only [e2, true_and]
 exact ⟨by omega, fun _ => ⟨by omega, key c hc.1 c2 hc.2.2⟩⟩
theorem s208 (G : Gl) : SpecOK (CC G) 208 c208.pt := specO G (no_ok G) (fn := Tryz.f208) rfl NA c208 (fun _ => noAnn) fun x h => Met.of (eq_c208 G x) (ok_c208 G x h)
theorem s210 (G : Gl) : SpecOK (CC G) 210 c210.pt := by
 obtain ⟨h1, h2, h3, h4⟩ := fnOf_ok G 210 Tryz.f210 rfl
 exact ctrD_ok (zok G) (inl_ok (zok G) (mixed G) (no_ok G) (bodyW_ok G NA) 12) (inlR_ok (zok G) (mixed G) (no_ok G) (bodyW_ok G NA) 12) (mixed G) noAnn h1 h2 h3 h4 false c210 fun ⟨m, rel, b, k⟩ h => Met.of (eq_c210 G m rel b k) (ok_c210 G m rel b k h)
theorem b209_ok (G : Gl) : ∀ f pt, b209 f = some pt -> SpecOK (CC G) f pt := by
 intro f pt h
 unfold b209 at h
 split at h
 . cases h; exact loc_ok (s208 G) _
 . cases h; exact loc_ok (s210 G) _
 . cases h
theorem s209 (G : Gl) : SpecOK (CC G) 209 c209.pt := specN G 3 (b209_ok G) (fn := Tryz.f209) rfl NA c209 (fun _ => a209) fun x h => Met.of (eq_c209 G x) (ok_c209 G x h)
theorem b205_ok (G : Gl) : ∀ f pt, b205 f = some pt -> SpecOK (CC G) f pt := by
 intro f pt h
 unfold b205 at h
 split at h
 . cases h; exact loc_ok (s208 G) _
 . cases h; exact loc_ok (s209 G) _
 . cases h
theorem s205 (G : Gl) : SpecOK (CC G) 205 c205.pt := specN G 3 (b205_ok G) (fn := Tryz.f205) rfl NA c205 (fun _ => noAnn) fun x h => Met.of (eq_c205 G x) (ok_c205 G x h)
end Pc
/-
 PushBits.
-/
set_option linter.unusedVariables false
set_option maxRecDepth 100000
open Go Go.Vg Go.Proofs
namespace Pc
def cond_c118 (G : Gl) (B : List Nat) (x : WS) : Prop :=
 Rf x.wb /\ Br (decide ((x.w.cnt : Int) >= (504 : Int))) (Rf x.wb /\ Rf x.wb /\ ((0 : Int) <= (0 : Int) /\ (0 : Int) <= (x.w.cnt : Int) /\ (x.w.cnt : Int) <= (512 : Int) /\ ((0 : Int) < (512 : Int) \/ (0 : Int) = (0 : Int))) /\ False /- "a call of a function without a contract" -/) (Rf x.wb /\ (Rf x.wb /\ Br x.big ((0 : Int) <= (1 : Int) /\ (0 : Int) <= (1 : Int) /\ (0 : Int) <= (2 : Int) /\ (0 : Int) <= (2 : Int) /\ (0 : Int) <= (4 : Int) /\ (0 : Int) <= (4 : Int) /\ ∃ x1 : Unit, True /\ bitI BinOp.or IntKind.u64 (shrI IntKind.u64 (bitI BinOp.and IntKind.u64 (bitI BinOp.or IntKind.u64 (shrI IntKind.u64 (bitI BinOp.and IntKind.u64 (bitI BinOp.or IntKind.u64 (shrI IntKind.u64 (bitI BinOp.and IntKind.u64 (x.w.bits : Int) (12297829382473034410 : Int)) (1 : Int)) (shlI IntKind.u64 (bitI BinOp.and IntKind.u64 (x.w.bits : Int) (6148914691236517205 : Int)) (1 : Int))) (14757395258967641292 : Int)) (2 : Int)) (shlI IntKind.u64 (bitI BinOp.and IntKind.u64 (bitI BinOp.or IntKind.u64 (shrI IntKind.u64 (bitI BinOp.and IntKind.u64 (x.w.bits : Int) (12297829382473034410 : Int)) (1 : Int)) (shlI IntKind.u64 (bitI BinOp.and IntKind.u64 (x.w.bits : Int) (6148914691236517205 : Int)) (1 : Int))) (3689348814741910323 : Int)) (2 : Int))) (17361641481138401520 : Int)) (4 : Int)) (shlI IntKind.u64 (bitI BinOp.and IntKind.u64 (bitI BinOp.or IntKind.u64 (shrI IntKind.u64 (bitI BinOp.and IntKind.u64 (bitI BinOp.or IntKind.u64 (shrI IntKind.u64 (bitI BinOp.and IntKind.u64 (x.w.bits : Int) (12297829382473034410 : Int)) (1 : Int)) (shlI IntKind.u64 (bitI BinOp.and IntKind.u64 (x.w.bits : Int) (6148914691236517205 : Int)) (1 : Int))) (14757395258967641292 : Int)) (2 : Int)) (shlI IntKind.u64 (bitI BinOp.and IntKind.u64 (bitI BinOp.or IntKind.u64 (shrI IntKind.u64 (bitI BinOp.and IntKind.u64 (x.w.bits : Int) (12297829382473034410 : Int)) (1 : Int)) (shlI IntKind.u64 (bitI BinOp.and IntKind.u64 (x.w.bits : Int) (6148914691236517205 : Int)) (1 : Int))) (3689348814741910323 : Int)) (2 : Int))) (1085102592571150095 : Int)) (4 : Int)) = (↑(swp x.big x.w.bits) : Int) /\ x.m = x.m /\ Rl x.rel /\ Rf x.wb /\ Rf (x.off : Int) /\ (Rf x.ob /\ Ro) /\ Rf (x.w.bits : Int) /\ Rf (x.w.num : Int) /\ Rf x.big /\ (Rf 512 /\ Rf x.w.arr) /\ Rf (x.w.cnt : Int) /\ Rf x.ob /\ (Rf x.b.x /\ Rf 0 /\ Rf x.b.n /\ Rf x.b.v) /\ Rz /\ Rf x.b.last /\ (Rf x.b.x /\ Rf x.b.l) /\ True) (∃ x1 : Unit, True /\ (x.w.bits : Int) = (↑(swp x.big x.w.bits) : Int) /\ x.m = x.m /\ Rl x.rel /\ Rf x.wb /\ Rf (x.off : Int) /\ (Rf x.ob /\ Ro) /\ Rf (x.w.bits : Int) /\ Rf (x.w.num : Int) /\ Rf x.big /\ (Rf 512 /\ Rf x.w.arr) /\ Rf (x.w.cnt : Int) /\ Rf x.ob /\ (Rf x.b.x /\ Rf 0 /\ Rf x.b.n /\ Rf x.b.v) /\ Rz /\ Rf x.b.last /\ (Rf x.b.x /\ Rf x.b.l) /\ True)) /\ (∀ x1 : Unit, (True -> Rf x.wb /\ ((0 : Int) <= (x.w.cnt : Int) /\ (x.w.cnt : Int) <= (512 : Int) /\ (512 : Int) <= (512 : Int) /\ ((x.w.cnt : Int) < (512 : Int) \/ (x.w.cnt : Int) = (0 : Int))) /\ ∀ x2 : Nat, inRange (7 : Int) ((512 : Nat) - x.w.cnt) /\ Rf x.wb /\ x.w.cnt + 7 < x.w.arr.length /\ ∀ x3 : Int, ((x.w.arr[x.w.cnt + 7]? = some x3) ->
 inRange (0 : Int) ((512 : Nat) - x.w.cnt) /\ (Rf x.wb /\ x.w.cnt + 0 < x.w.arr.length) /\ (0 : Int) <= (8 : Int) /\ inRange (1 : Int) ((512 : Nat) - x.w.cnt) /\ (Rf x.wb /\ x.w.cnt + 1 < List.length (List.set x.w.arr (x.w.cnt + 0) (IntKind.wrap IntKind.u8 (↑(swp x.big x.w.bits) : Int)))) /\ (0 : Int) <= (16 : Int) /\ inRange (2 : Int) ((512 : Nat) - x.w.cnt) /\ (Rf x.wb /\ x.w.cnt + 2 < List.length (List.set (List.set x.w.arr (x.w.cnt + 0) (IntKind.wrap IntKind.u8 (↑(swp x.big x.w.bits) : Int))) (x.w.cnt + 1) (IntKind.wrap IntKind.u8 (shrI IntKind.u64 (↑(swp x.big x.w.bits) : Int) (8 : Int))))) /\ (0 : Int) <= (24 : Int) /\ inRange (3 : Int) ((512 : Nat) - x.w.cnt) /\ (Rf x.wb /\ x.w.cnt + 3 < List.length (List.set (List.set (List.set x.w.arr (x.w.cnt + 0) (IntKind.wrap IntKind.u8 (↑(swp x.big x.w.bits) : Int))) (x.w.cnt + 1) (IntKind.wrap IntKind.u8 (shrI IntKind.u64 (↑(swp x.big x.w.bits) : Int) (8 : Int)))) (x.w.cnt + 2) (IntKind.wrap IntKind.u8 (shrI IntKind.u64 (↑(swp x.big x.w.bits) : Int) (16 : Int))))) /\ (0 : Int) <= (32 : Int) /\ inRange (4 : Int) ((512 : Nat) - x.w.cnt) /\ (Rf x.wb /\ x.w.cnt + 4 < List.length (List.set (List.set (List.set (List.set x.w.arr (x.w.cnt + 0) (IntKind.wrap IntKind.u8 (↑(swp x.big x.w.bits) : Int))) (x.w.cnt + 1) (IntKind.wrap IntKind.u8 (shrI IntKind.u64 (↑(swp x.big x.w.bits) : Int) (8 : Int)))) (x.w.cnt + 2) (IntKind.wrap IntKind.u8 (shrI IntKind.u64 (↑(swp x.big x.w.bits) : Int) (16 : Int)))) (x.w.cnt + 3) (IntKind.wrap IntKind.u8 (shrI IntKind.u64 (↑(swp x.big x.w.bits) : Int) (24 : Int))))) /\ (0 : Int) <= (40 : Int) /\ inRange (5 : Int) ((512 : Nat) - x.w.cnt) /\ (Rf x.wb /\ x.w.cnt + 5 < List.length (List.set (List.set (List.set (List.set (List.set x.w.arr (x.w.cnt + 0) (IntKind.wrap IntKind.u8 (↑(swp x.big x.w.bits) : Int))) (x.w.cnt + 1) (IntKind.wrap IntKind.u8 (shrI IntKind.u64 (↑(swp x.big x.w.bits) : Int) (8 : Int)))) (x.w.cnt + 2) (IntKind.wrap IntKind.u8 (shrI IntKind.u64 (↑(swp x.big x.w.bits) : Int) (16 : Int)))) (x.w.cnt + 3) (IntKind.wrap IntKind.u8 (shrI IntKind.u64 (↑(swp x.big x.w.bits) : Int) (24 : Int)))) (x.w.cnt + 4) (IntKind.wrap IntKind.u8 (shrI IntKind.u64 (↑(swp x.big x.w.bits) : Int) (32 : Int))))) /\ (0 : Int) <= (48 : Int) /\ inRange (6 : Int) ((512 : Nat) - x.w.cnt) /\ (Rf x.wb /\ x.w.cnt + 6 < List.length (List.set (List.set (List.set (List.set (List.set (List.set x.w.arr (x.w.cnt + 0) (IntKind.wrap IntKind.u8 (↑(swp x.big x.w.bits) : Int))) (x.w.cnt + 1) (IntKind.wrap IntKind.u8 (shrI IntKind.u64 (↑(swp x.big x.w.bits) : Int) (8 : Int)))) (x.w.cnt + 2) (IntKind.wrap IntKind.u8 (shrI IntKind.u64 (↑(swp x.big x.w.bits) : Int) (16 : Int)))) (x.w.cnt + 3) (IntKind.wrap IntKind.u8 (shrI IntKind.u64 (↑(swp x.big x.w.bits) : Int) (24 : Int)))) (x.w.cnt + 4) (IntKind.wrap IntKind.u8 (shrI IntKind.u64 (↑(swp x.big x.w.bits) : Int) (32 : Int)))) (x.w.cnt + 5) (IntKind.wrap IntKind.u8 (shrI IntKind.u64 (↑(swp x.big x.w.bits) : Int) (40 : Int))))) /\ (0 : Int) <= (56 : Int) /\
 inRange (7 : Int) ((512 : Nat) - x.w.cnt) /\ (Rf x.wb /\ x.w.cnt + 7 < List.length (List.set (List.set (List.set (List.set (List.set (List.set (List.set x.w.arr (x.w.cnt + 0) (IntKind.wrap IntKind.u8 (↑(swp x.big x.w.bits) : Int))) (x.w.cnt + 1) (IntKind.wrap IntKind.u8 (shrI IntKind.u64 (↑(swp x.big x.w.bits) : Int) (8 : Int)))) (x.w.cnt + 2) (IntKind.wrap IntKind.u8 (shrI IntKind.u64 (↑(swp x.big x.w.bits) : Int) (16 : Int)))) (x.w.cnt + 3) (IntKind.wrap IntKind.u8 (shrI IntKind.u64 (↑(swp x.big x.w.bits) : Int) (24 : Int)))) (x.w.cnt + 4) (IntKind.wrap IntKind.u8 (shrI IntKind.u64 (↑(swp x.big x.w.bits) : Int) (32 : Int)))) (x.w.cnt + 5) (IntKind.wrap IntKind.u8 (shrI IntKind.u64 (↑(swp x.big x.w.bits) : Int) (40 : Int)))) (x.w.cnt + 6) (IntKind.wrap IntKind.u8 (shrI IntKind.u64 (↑(swp x.big x.w.bits) : Int) (48 : Int))))) /\ Rf x.wb /\ (8 : Int) ≠ (0 : Int) /\ Rf x.wb /\ inI64 (IntKind.wrap IntKind.u64 (Int.tdiv (x.w.num : Int) (8 : Int))) /\ inI64 ((x.w.cnt : Int) + IntKind.wrap IntKind.u64 (Int.tdiv (x.w.num : Int) (8 : Int))) /\ Rf x.wb /\ Rf x.wb /\ (0 : Int) <= IntKind.wrap IntKind.u64 ((8 : Int) * IntKind.wrap IntKind.u64 (Int.tdiv (x.w.num : Int) (8 : Int))) /\ Rf x.wb /\ Rf x.wb /\ Rf x.wb /\ ∃ x4 : WV, psh B x x4 /\ (IntKind.wrap IntKind.u64 ((8 : Int) * IntKind.wrap IntKind.u64 (Int.tdiv (x.w.num : Int) (8 : Int))) = (↑((8 : Nat) * (x.w.num / 8)) : Int)) /\ Rf Value.nilIface /\ x.m = x.m /\ Rl x.rel /\ Rf x.wb /\ Rf (x.off : Int) /\ (Rf x.ob /\ Ro) /\ shrI IntKind.u64 (x.w.bits : Int) (IntKind.wrap IntKind.u64 ((8 : Int) * IntKind.wrap IntKind.u64 (Int.tdiv (x.w.num : Int) (8 : Int)))) = (x4.bits : Int) /\ IntKind.wrap IntKind.u64 ((x.w.num : Int) - IntKind.wrap IntKind.u64 ((8 : Int) * IntKind.wrap IntKind.u64 (Int.tdiv (x.w.num : Int) (8 : Int)))) = (x4.num : Int) /\ Rf x.big /\ (Rf 512 /\ List.set (List.set (List.set (List.set (List.set (List.set (List.set (List.set x.w.arr (x.w.cnt + 0) (IntKind.wrap IntKind.u8 (↑(swp x.big x.w.bits) : Int))) (x.w.cnt + 1) (IntKind.wrap IntKind.u8 (shrI IntKind.u64 (↑(swp x.big x.w.bits) : Int) (8 : Int)))) (x.w.cnt + 2) (IntKind.wrap IntKind.u8 (shrI IntKind.u64 (↑(swp x.big x.w.bits) : Int) (16 : Int)))) (x.w.cnt + 3) (IntKind.wrap IntKind.u8 (shrI IntKind.u64 (↑(swp x.big x.w.bits) : Int) (24 : Int)))) (x.w.cnt + 4) (IntKind.wrap IntKind.u8 (shrI IntKind.u64 (↑(swp x.big x.w.bits) : Int) (32 : Int)))) (x.w.cnt + 5) (IntKind.wrap IntKind.u8 (shrI IntKind.u64 (↑(swp x.big x.w.bits) : Int) (40 : Int)))) (x.w.cnt + 6) (IntKind.wrap IntKind.u8 (shrI IntKind.u64 (↑(swp x.big x.w.bits) : Int) (48 : Int)))) (x.w.cnt + 7) (IntKind.wrap IntKind.u8 (shrI IntKind.u64 (↑(swp x.big x.w.bits) : Int) (56 : Int))) = x4.arr) /\ (x.w.cnt : Int) + IntKind.wrap IntKind.u64 (Int.tdiv (x.w.num : Int) (8 : Int)) = (x4.cnt : Int) /\ Rf x.ob /\ (Rf x.b.x /\ Rf 0 /\ Rf x.b.n /\ Rf x.b.v) /\ Rz /\ Rf x.b.last /\ (Rf x.b.x /\ Rf x.b.l) /\ True))))
noncomputable def law_c118 (G : Gl) (B : List Nat) (x : WS) : VCT := fnx (CC G) (inl (CC G) no (bodyX 205 NA) 12) (a118 x) Tryz.f118 ((c118 B).args x) ((c118 B).H x) (outK true 5 ((c118 B).ret x)) ((c118 B).pan x)
theorem eq_c118 (G : Gl) (B : List Nat) (x : WS) : cond_c118 G B x = (law_c118 G B x).den := by kernel_rfl
def setN (l : List Int) (c : Nat) (f : Nat -> Int) : Nat -> List Int
 | 0 => l
 | n + 1 => (setN l c f n).set (c + n) (f n)
theorem setN_len (l : List Int) (c : Nat) (f : Nat -> Int) : ∀ n, (setN l c f n).length = l.length
 | 0 => rfl
 | n + 1 => by rw [setN, List.length_set, setN_len l c f n]
theorem setN_get (l : List Int) (c : Nat) (f : Nat -> Int) : ∀ n j, c + n <= l.length -> (setN l c f n)[j]? = if c <= j /\ j < c + n then some (f (j - c)) else l[j]?
 | 0, j, _ => by rw [setN, if_neg (by omega)]
 | n + 1, j, h => by
   rw [setN, List.getElem?_set, setN_len, setN_get l c f n j (by omega)]
   by_cases h1 : c + n = j
   . rw [if_pos h1, if_pos (by omega), if_pos (by omega), show j - c = n by omega]
   . rw [if_neg h1]
     by_cases h2 : c <= j /\ j < c + n
     . rw [if_pos h2, if_pos (by omega)]
     . rw [if_neg h2, if_neg (by omega)]
theorem setN_take {l : List Int} {c n q : Nat} (f : Nat -> Int) (h : c + n <= l.length) (hq : q <= n) : (setN l c f n).take (c + q) = l.take c ++ (List.range q).map f := by
 apply List.ext_getElem?
 intro j
 rw [List.getElem?_take]
 by_cases h1 : j < c + q
 . rw [if_pos h1, setN_get l c f n j h]
   by_cases h2 : j < c
   . rw [if_neg (by omega), List.getElem?_append_left (by rw [List.length_take]; omega), List.getElem?_take_of_lt h2]
   . rw [if_pos (by omega), List.getElem?_append_right (by rw [List.length_take]; omega), List.length_take, List.getElem?_map, List.getElem?_range (by omega), Option.map_some]
     congr 2; omega
 . rw [if_neg h1, List.getElem?_eq_none (by rw [List.length_append, List.length_take, List.length_map, List.length_range]; omega)]
def byN (u q : Nat) : List Nat := (List.range q).map fun i => u / 2 ^ (8 * i) % 256
theorem swp_lt {big : Bool} {u : Nat} (h : u < 2 ^ 64) : swp big u < 2 ^ 64 := by
 unfold swp
 split
 . exact stage_lt (stage_lt (stage_lt h))
 . exact h
theorem swp_bt {big : Bool} {u k : Nat} (h : u < 2 ^ 64) (hk : k < 64) : bt (swp big u) k = bt u (if big = true then 8 * (k / 8) + (7 - k % 8) else k) := by
 unfold swp
 split
 . obtain ⟨e1, e2, e3⟩ := sw_all ⟨k, hk⟩
   dsimp only at e1 e2 e3
   rw [stage_bt (stage_lt (stage_lt h)) m4 hk, stage_bt (stage_lt h) m2 e2, stage_bt h m1 e3, e1]
 . rfl
theorem byN_bits {big : Bool} {u q : Nat} (h : u < 2 ^ 64) (hq : q <= 8) : bitsOf big (byN (swp big u) q) = nb u (8 * q) := by
 have hl : (byN (swp big u) q).length = q := by simp [byN]
 refine nb_ext (by rw [bitsOf_len, hl]) fun k hk => ?_
 have e : k = 8 * (k / 8) + k % 8 := by omega
 have g := bits_get big (byN (swp big u) q) (k / 8) (k % 8) (by rw [hl]; omega) (by omega)
 rw [<- e] at g
 rw [g]
 have hg : (byN (swp big u) q).getD (k / 8) 0 = swp big u / 2 ^ (8 * (k / 8)) % 2 ^ 8 := by
   unfold byN
   rw [List.getD_eq_getElem?_getD, List.getElem?_map, List.getElem?_range (by omega)]; rfl
 rw [hg, bt_mod (by split <;> omega), bt_div, swp_bt h (by split <;> omega)]
 congr 2
 cases big
 . simp only [Bool.false_eq_true, if_false]; omega
 . simp only [if_true]; omega
theorem psh_mk {B : List Nat} {x : WS} (h : wsOK B x) (hc : x.w.cnt <= 503) :
   psh B x ⟨x.w.bits / 2 ^ (8 * (x.w.num / 8)), x.w.num - 8 * (x.w.num / 8), setN x.w.arr x.w.cnt (fun i => ((swp x.big x.w.bits / 2 ^ (8 * i) % 256 : Nat) : Int)) 8, x.w.cnt + x.w.num / 8⟩ := by
 have hn := h.num
 have h64 : x.w.bits < 2 ^ 64 := Nat.lt_of_lt_of_le h.bits (Nat.pow_le_pow_right (by decide) hn)
 have hq : x.w.num / 8 <= 8 := by omega
 obtain ⟨bs, b1, b2, b3⟩ := h.rep
 refine ⟨⟨?_, ?_, ?_, ?_, h.bv, h.off, ⟨bs ++ byN (swp x.big x.w.bits) (x.w.num / 8), ?_, ?_, ?_⟩⟩, ?_, ?_, rfl⟩
 . exact (setN_len _ _ _ _).trans h.arr
 . show x.w.cnt + x.w.num / 8 <= 512
   omega
 . show x.w.num - 8 * (x.w.num / 8) <= 64
   omega
 . show x.w.bits / 2 ^ (8 * (x.w.num / 8)) < 2 ^ (x.w.num - 8 * (x.w.num / 8))
   refine Nat.div_lt_of_lt_mul ?_
   rw [<- Nat.pow_add, show 8 * (x.w.num / 8) + (x.w.num - 8 * (x.w.num / 8)) = x.w.num by omega]
   exact h.bits
 . intro b hb
   rcases List.mem_append.1 hb with hb | hb
   . exact b1 b hb
   . unfold byN at hb
     rw [List.mem_map] at hb
     obtain ⟨i, _, rfl⟩ := hb
     exact Nat.mod_lt _ (by decide)
 . show x.b.l.take x.b.n ++ (setN x.w.arr x.w.cnt _ 8).take (x.w.cnt + x.w.num / 8) = _
   rw [setN_take _ (by rw [h.arr]; omega) hq, <- List.append_assoc, b2]
   simp [ints, byN]
 . show B = bitsOf x.big _ ++ nb (x.w.bits / 2 ^ (8 * (x.w.num / 8))) (x.w.num - 8 * (x.w.num / 8))
   rw [bitsOf_app, byN_bits h64 hq, List.append_assoc, <- nb_add, show 8 * (x.w.num / 8) + (x.w.num - 8 * (x.w.num / 8)) = x.w.num by omega]
   exact b3
 . unfold WV.tot
   dsimp only; omega
 . dsimp only; omega
theorem ok_c118 (G : Gl) (B : List Nat) (x : WS) (h : wsOK B x) (hc : x.w.cnt <= 503) : cond_c118 G B x := by
 unfold cond_c118
 have hn := h.num
 have harr := h.arr
 have h64 : x.w.bits < 2 ^ 64 := Nat.lt_of_lt_of_le h.bits (Nat.pow_le_pow_right (by decide) hn)
 have hu := swp_lt (big := x.big) h64
 have t1 : Int.tdiv (x.w.num : Int) 8 = ((x.w.num / 8 : Nat) : Int) := by rw [Int.tdiv_eq_ediv_of_nonneg (by omega)]; omega
 have t2 : IntKind.u64.wrap ((x.w.num / 8 : Nat) : Int) = ((x.w.num / 8 : Nat) : Int) := wrId rfl (by simp only [IntKind.bits]; omega)
 have t3 : IntKind.u64.wrap ((8 : Int) * ((x.w.num / 8 : Nat) : Int)) = ((8 * (x.w.num / 8) : Nat) : Int) := by rw [wr64]; omega
 have t4 : IntKind.u64.wrap ((x.w.num : Int) - ((8 * (x.w.num / 8) : Nat) : Int)) = ((x.w.num - 8 * (x.w.num / 8) : Nat) : Int) := by rw [wr64]; omega
 have t5 : shrI IntKind.u64 (x.w.bits : Int) ((8 * (x.w.num / 8) : Nat) : Int) = ((x.w.bits / 2 ^ (8 * (x.w.num / 8)) : Nat) : Int) := by
   rw [shrN, show min (8 * (x.w.num / 8)) IntKind.u64.bits = 8 * (x.w.num / 8) by simp only [IntKind.bits]; omega]
 have w0 : IntKind.wrap IntKind.u8 ((swp x.big x.w.bits : Nat) : Int) = ((swp x.big x.w.bits / 2 ^ (8 * 0) % 256 : Nat) : Int) := by
   rw [wrN rfl]; simp [IntKind.bits]
 have w1 : ∀ i, i < 8 -> IntKind.wrap IntKind.u8 (shrI IntKind.u64 ((swp x.big x.w.bits : Nat) : Int) ((8 * i : Nat) : Int)) = ((swp x.big x.w.bits / 2 ^ (8 * i) % 256 : Nat) : Int) := fun i hi => by
   rw [shrN, show min (8 * i) IntKind.u64.bits = 8 * i by simp only [IntKind.bits]; omega, wrN rfl]; rfl
 have key := psh_mk h hc
 have u1 : IntKind.wrap IntKind.u8 (shrI IntKind.u64 ((swp x.big x.w.bits : Nat) : Int) 8) = ((swp x.big x.w.bits / 2 ^ (8 * 1) % 256 : Nat) : Int) := w1 1 (by decide)
 have u2 : IntKind.wrap IntKind.u8 (shrI IntKind.u64 ((swp x.big x.w.bits : Nat) : Int) 16) = ((swp x.big x.w.bits / 2 ^ (8 * 2) % 256 : Nat) : Int) := w1 2 (by decide)
 have u3 : IntKind.wrap IntKind.u8 (shrI IntKind.u64 ((swp x.big x.w.bits : Nat) : Int) 24) = ((swp x.big x.w.bits / 2 ^ (8 * 3) % 256 : Nat) : Int) := w1 3 (by decide)
 have u4 : IntKind.wrap IntKind.u8 (shrI IntKind.u64 ((swp x.big x.w.bits : Nat) : Int) 32) = ((swp x.big x.w.bits / 2 ^ (8 * 4) % 256 : Nat) : Int) := w1 4 (by decide)
 have u5 : IntKind.wrap IntKind.u8 (shrI IntKind.u64 ((swp x.big x.w.bits : Nat) : Int) 40) = ((swp x.big x.w.bits / 2 ^ (8 * 5) % 256 : Nat) : Int) := w1 5 (by decide)
 have u6 : IntKind.wrap IntKind.u8 (shrI IntKind.u64 ((swp x.big x.w.bits : Nat) : Int) 48) = ((swp x.big x.w.bits / 2 ^ (8 * 6) % 256 : Nat) : Int) := w1 6 (by decide)
 have u7 : IntKind.wrap IntKind.u8 (shrI IntKind.u64 ((swp x.big x.w.bits : Nat) : Int) 56) = ((swp x.big x.w.bits / 2 ^ (8 * 7) % 256 : Nat) : Int) := w1 7 (by decide)
 simp only [br_d, rel_self, true_and, and_true, inRange, inI64, Int.toNat_natCast, List.length_set, t1, t2, t3, t4, t5, w0, harr, u1, u2, u3, u4, u5, u6, u7]
 refine ⟨fun h => by omega, fun _ => ⟨br_mk (fun hb => ?_) (fun hb => ?_), fun _ _ => ⟨by omega, fun _ => ⟨by omega, by omega, fun _ _ => ⟨by omega, by omega, by decide, by omega, by omega, by decide, by omega, by omega, by decide, by omega, by omega, by decide, by omega, by omega, by decide, by omega, by omega, by decide, by omega, by omega, by decide, by omega, by omega, by decide, by omega, by omega, by omega, _, key, rfl, rfl, rfl, rfl⟩⟩⟩⟩⟩
 . have s1 := stage_run (hi := 12297829382473034410) (lo := 6148914691236517205) (s := 1) h64 (by decide) (by decide) (by decide)
   have s2 := stage_run (u := stage x.w.bits 12297829382473034410 6148914691236517205 1) (hi := 14757395258967641292) (lo := 3689348814741910323) (s := 2) (stage_lt h64) (by decide) (by decide) (by decide)
   have s3 := stage_run (u := stage (stage x.w.bits 12297829382473034410 6148914691236517205 1) 14757395258967641292 3689348814741910323 2) (hi := 17361641481138401520) (lo := 1085102592571150095) (s := 4) (stage_lt (stage_lt h64)) (by decide) (by decide) (by decide)
   refine ⟨by decide, by decide, by decide, by decide, by decide, by decide, (), ?_⟩
   refine Eq.trans ?_ (s3.trans ?_)
   . rw [<- s2, <- s1]; rfl
   . unfold swp; rw [if_pos hb]
 . refine ⟨(), ?_⟩
   unfold swp; rw [if_neg (by rw [hb]; decide)]
theorem s118 (G : Gl) (B : List Nat) : SpecOK (CC G) 118 (c118 B).pt := specX G 205 (no_ok G) (fn := Tryz.f118) rfl NA (c118 B) a118 fun x h => Met.of (eq_c118 G B x) (ok_c118 G B x h.1 h.2)
end Pc
/-
 Contracts of the writer's methods, of the encoders.
-/
set_option linter.unusedVariables false
set_option maxRecDepth 100000
open Go Go.Vg Go.Proofs
namespace Pc
theorem specE (G : Gl) {base : Nat -> Option (PT TT)} (hb : ∀ f pt, base f = some pt -> SpecOK (CC G) f pt) {f : Nat} {fn : Func} (hf : fnOf f = some fn) (anns : Nat -> Ann TT) (es : List Nat) (c : Ctr TT) (ann : c.X -> Ann TT)
   (h : ∀ x, c.phi x -> Met (fnx (CC G) (IN G base anns) (ann x) fn (c.args x) (c.H x) (outB es true (c.H x).length (c.ret x)) (c.pan x))) : SpecOK (CC G) f c.pt := by
 obtain ⟨h1, h2, h3, h4⟩ := fnOf_ok G f fn hf
 exact ctr_okB (zok G) (inl_ok (zok G) (mixed G) hb (bodyW_ok G anns) 12) (mixed G) h1 h2 h3 h4 es true c ann h
structure wrt (B C : List Nat) (x : WS) (w : WV) : Prop where
 ok : wsOK (B ++ C) (x.put w)
 tot : w.tot = x.w.tot + C.length
noncomputable def b65 (B : List Nat) : Nat -> Option (PT TT)
 | 118 => some (loc [none] (c118 B).pt)
 | _ => none
/-! WriteBits -/
def c65 (B : List Nat) : Ctr TT where
 X := WS × Nat × Nat
 find a H := match a with
   | [.p 2 _ (.lit 0), .v (.int .u64 v), .v (.int .u64 n)] => (getWS H).map fun x => (x, v.toNat, n.toNat)
   | _ => none
 phi x := wsOK B x.1 /\ x.1.w.tot <= 4024 /\ x.2.1 < 2 ^ x.2.2 /\ x.2.2 <= 57
 args x := [.p 2 x.1.wb (.lit 0), iv .u64 x.2.1, iv .u64 x.2.2]
 H x := x.1.H
 outs := [{ Y := fun _ => WV, psi := fun x w => wrt B (nb x.2.1 x.2.2) x.1 w /\ w.num <= 7 + x.2.2, res := fun x _ => .t [], H := fun x w => (x.1.put w).H }]
/-! WritePads -/
def c68 (B : List Nat) : Ctr TT where
 X := WS × Nat
 find a H := match a with
   | [.p 2 _ (.lit 0), .v (.int .u64 v)] => (getWS H).map fun x => (x, v.toNat)
   | _ => none
 phi x := wsOK B x.1 /\ x.1.w.num <= 57 /\ x.2 < 2 ^ padN B.length
 args x := [.p 2 x.1.wb (.lit 0), iv .u64 x.2]
 H x := x.1.H
 outs := [{ Y := fun _ => WV, psi := fun x w => wrt B (nb x.2 (padN B.length)) x.1 w /\ w.cnt = x.1.w.cnt, res := fun x _ => .t [], H := fun x w => (x.1.put w).H }]
/-! Flush -/
structure YF where
 off : Nat
 w : WV
 b : BV
def c71 (B : List Nat) : Ctr TT where
 X := WS
 find a H := match a with
   | [.p 2 _ (.lit 0)] => getWS H
   | _ => none
 phi x := wsOK B x /\ x.w.cnt <= 503 /\ x.b.n <= 900000
 args x := [.p 2 x.wb (.lit 0)]
 H x := x.H
 outs := [{ Y := fun _ => YF, psi := fun x y => wsOK B (x.upd y.off y.w y.b) /\ y.w.cnt = 0 /\ y.w.num <= 7 /\ y.b.n <= x.b.n + 512, res := fun x y => .t [iv .i64 y.off, .v .nilIface], H := fun x y => (x.upd y.off y.w y.b).H }]
noncomputable def b71 (B : List Nat) : Nat -> Option (PT TT)
 | 118 => some (loc [none] (c118 B).pt)
 | 205 => some (loc [none, some 5] c205.pt)
 | _ => none
/-! Write -/
def c69 (B : List Nat) : Ctr TT where
 X := WS × Value × List Nat
 find a H := match a with
   | [.p 2 _ (.lit 0), .ro 5 y s] => (getWS H).map fun x => (x, y, nats s)
   | _ => none
 phi x := wsOK B x.1 /\ x.1.w.cnt <= 503 /\ x.1.b.n <= 800000 /\ B.length % 8 = 0 /\ x.2.2.length <= 90000 /\ ∀ b ∈ x.2.2, b < 256
 args x := [.p 2 x.1.wb (.lit 0), .ro 5 x.2.1 (ints x.2.2)]
 H x := x.1.H
 outs := [{ Y := fun _ => YF, psi := fun x y => wsOK (B ++ bitsOf x.1.big x.2.2) (x.1.upd y.off y.w y.b) /\ y.w.cnt = 0 /\ y.w.num = 0 /\ y.b.n <= x.1.b.n + 512 + x.2.2.length, res := fun x y => .t [iv .i64 x.2.2.length, .v .nilIface], H := fun x y => (x.1.upd y.off y.w y.b).H }]
noncomputable def b69 (B : List Nat) : Nat -> Option (PT TT)
 | 71 => some (loc [none] (c71 B).pt)
 | 205 => some (loc [none, some 5] c205.pt)
 | _ => none
/-! Encoder -/
def encT (lens : List Nat) (n i : Nat) : List Nat := (List.range n).map fun j => if j < i then codeV lens j * 32 + lens.getD j 0 else 0
structure EV where
 y : Value
 k : Nat
structure evOK (lens : List Nat) (e : EV) : Prop where
 le : lens.length <= 2 ^ e.k
 k : e.k <= 6
def encE (lens : List Nat) (eb : Nat) (e : EV) : Ent TT := .B eb 132 [.c (.ro 43 e.y (ints (encT lens (2 ^ e.k) lens.length))), .c (iv .u32 (2 ^ e.k - 1)), .c (iv .u32 lens.length)]
structure X61 where
 m : Fz
 rel : Rel TT
 eb : Nat
 y : Value
 lens : List Nat
def c61 : Ctr TT where
 X := X61
 find a H := match a, H with
   | [.p 2 _ (.lit 0), .ro 210 y l], [.F m, .R rel, .B eb 132 _] => some ⟨m, rel, eb, y, lensOf l⟩
   | _, _ => none
 phi x := Good x.lens
 args x := [.p 2 x.eb (.lit 0), .ro 210 x.y (canonL x.lens)]
 H x := [.F x.m, .R x.rel, .B x.eb 132 [nilS, i0 .u32, i0 .u32]]
 outs := [{ Y := fun _ => EV, psi := fun x e => evOK x.lens e, res := fun _ _ => .t [], H := fun x e => [.F x.m, .R x.rel, encE x.lens x.eb e] }]
noncomputable def b61 : Nat -> Option (PT TT)
 | 114 => some (loc [none, none] c114.pt)
 | _ => none
noncomputable def a61 (lens : List Nat) : Ann TT := fun r S => match r with
 | 13 => some {
   X := Nat
   phi := fun t => t <= 6 /\ (t = 0 \/ 0 < (lens.length - 1) / 2 ^ (t - 1))
   fr := fun t => [(4, iv .i64 (2 ^ t)), (5, iv .i64 ((lens.length - 1) / 2 ^ t))]
   H := fun t => []
   mu := fun t => (lens.length - 1) / 2 ^ t }
 | 20 => match S.ent 3 with
   | .O cx 43 l => some {
     X := Nat
     phi := fun i => i <= l.length
     fr := fun i => [(112, iv .i64 i)]
     H := fun i => [(3, .O cx 43 l)]
     mu := fun i => l.length - i }
   | _ => none
 | 25 => match S.ent 3 with
   | .O cx 43 l => some {
     X := Nat
     phi := fun i => i <= lens.length
     fr := fun i => [(124, iv .i64 i)]
     H := fun i => [(3, .O cx 43 (ints (encT lens l.length i)))]
     mu := fun i => lens.length - i }
   | _ => none
 | _ => none
/-! WriteSymbol -/
def getWE (lens : List Nat) (H : List (Ent TT)) : Option (WS × Nat × EV) := match H with
 | [f, r, w, o, l, .B eb 132 [.c (.ro 43 y _), .c (.v (.int _ mask)), .c _]] => (getWS [f, r, w, o, l]).map fun x => (x, eb, ⟨y, Nat.log2 (mask.toNat + 1)⟩)
 | _ => none
def c66 (B lens : List Nat) : Ctr TT where
 X := (WS × Nat × EV) × Nat
 find a H := match a with
   | [.p 2 _ (.lit 0), .v (.int .u64 v), .p 5 _ (.lit 0)] => (getWE lens H).map fun x => (x, v.toNat)
   | _ => none
 phi x := wsOK B x.1.1 /\ x.1.1.w.tot <= 4024 /\ Good lens /\ evOK lens x.1.2.2 /\ x.2 < lens.length
 args x := [.p 2 x.1.1.wb (.lit 0), iv .u64 x.2, .p 5 x.1.2.1 (.lit 0)]
 H x := x.1.1.H ++ [encE lens x.1.2.1 x.1.2.2]
 outs := [{ Y := fun _ => WV, psi := fun x w => wrt B (codeB lens x.2) x.1.1 w /\ w.num <= 27, res := fun x _ => .t [], H := fun x w => (x.1.1.put w).H ++ [encE lens x.1.2.1 x.1.2.2] }]
/-! RangeEncoder -/
structure lutOK (extra : List Nat) (lut : List Nat) : Prop where
 len : lut.length = 1024
 at_ : ∀ j i, j < 1024 -> rgM extra j = some i -> lut[j]? = some i
structure exOK (extra : List Nat) : Prop where
 len : extra.length <= 30
 le : ∀ n ∈ extra, n <= 20
structure GV where
 y : Value
 lut : List Nat
def rngE (extra : List Nat) (rb : Nat) (g : GV) : Ent TT := .B rb 141 [.c (.ro 215 g.y (rgL 0 extra)), .r 43 1024 (ints g.lut), .c (iv .u64 0)]
def zeros : List Int := List.replicate 1024 0
structure X63 where
 m : Fz
 rel : Rel TT
 rb : Nat
 y : Value
 extra : List Nat
def c115 : Ctr TT where
 X := Fz × Rel TT × Value × List Nat
 find a H := match a, H with
   | [.ro 215 x l], [.F m, .R rel] => some (m, rel, x, extraOf l)
   | _, _ => none
 phi x := exOK x.2.2.2 /\ 0 < x.2.2.2.length
 args x := [.ro 215 x.2.2.1 (rgL 0 x.2.2.2)]
 H x := fr2 x.1 x.2.1
 outs := [{ Y := fun _ => Unit, psi := fun x _ => True, res := fun x y => bv true, H := fun x _ => fr2 x.1 x.2.1 }]
noncomputable def a115 (extra : List Nat) : Ann TT := fun r S => match r, S.ent 2 with
 | 5, .B b _ _ => some {
   X := Nat
   phi := fun i => i + 1 <= extra.length
   fr := fun i => [(19, iv .i64 i)]
   H := fun i => [(2, .B b 215 [.c (iv .u32 (sum2 (extra.take i))), .c (iv .u32 (extra.getD i 0))])]
   mu := fun i => extra.length - i }
 | _, _ => none
def c63 : Ctr TT where
 X := X63
 find a H := match a, H with
   | [.p 2 _ (.lit 0), .ro 215 y l], [.F m, .R rel, .B rb 141 _] => some ⟨m, rel, rb, y, extraOf l⟩
   | _, _ => none
 phi x := exOK x.extra /\ 0 < x.extra.length
 args x := [.p 2 x.rb (.lit 0), .ro 215 x.y (rgL 0 x.extra)]
 H x := [.F x.m, .R x.rel, .B x.rb 141 [nilS, .r 43 1024 zeros, i0 .u64]]
 outs := [{ Y := fun _ => List Nat, psi := fun x l => lutOK x.extra l, res := fun _ _ => .t [], H := fun x l => [.F x.m, .R x.rel, rngE x.extra x.rb ⟨x.y, l⟩] }]
noncomputable def b63 : Nat -> Option (PT TT)
 | 115 => some (loc [some 215] c115.pt)
 | _ => none
structure ph63 (extra : List Nat) (i : Nat) (lut : List Nat) : Prop where
 le : i <= extra.length
 len : lut.length = 1024
 at_ : ∀ j k, j < 1024 -> k < i -> rgM extra j = some k -> lut[j]? = some k
noncomputable def a63 (x : X63) : Ann TT := fun r S => match r with
 | 4 => some {
   X := Nat × List Nat
   phi := fun y => ph63 x.extra y.1 y.2
   fr := fun y => [(22, iv .i64 y.1)]
   H := fun y => [(2, rngE x.extra x.rb ⟨x.y, y.2⟩)]
   mu := fun y => x.extra.length - y.1 }
 | 12 => match S.ent 2, S.get 4, S.get 6, S.get 7 with
   | .B _ _ [_, .r 43 _ l, _], some (.v (.int _ sym)), some (.v (.int _ bs)), some (.v (.int _ en)) => some {
     X := Nat
     phi := fun n => n <= en.toNat - bs.toNat
     fr := fun n => [(8, iv .i64 (bs.toNat + n))]
     H := fun n => [(2, .B x.rb 141 [.c (.ro 215 x.y (rgL 0 x.extra)), .r 43 1024 (setN l bs.toNat (fun _ => sym) n), .c (iv .u64 0)])]
     mu := fun n => en.toNat - bs.toNat - n }
   | _, _, _, _ => none
 | _ => none
def c120 (extra : List Nat) : Ctr TT where
 X := Fz × Rel TT × Nat × GV × Nat
 find a H := match a, H with
   | [.p 2 _ (.lit 0), .v (.int .u64 v)], [.F m, .R rel, .B rb 141 [.c (.ro 215 y _), .r 43 1024 lut, .c _]] => some (m, rel, rb, ⟨y, nats lut⟩, v.toNat)
   | _, _ => none
 phi x := exOK extra /\ lutOK extra x.2.2.2.1.lut /\ rgM extra x.2.2.2.2 ≠ none
 args x := [.p 2 x.2.2.1 (.lit 0), iv .u64 x.2.2.2.2]
 H x := [.F x.1, .R x.2.1, rngE extra x.2.2.1 x.2.2.2.1]
 outs := [{ Y := fun _ => Nat, psi := fun x i => rgM extra x.2.2.2.2 = some i, res := fun _ i => iv .u64 i, H := fun x _ => [.F x.1, .R x.2.1, rngE extra x.2.2.1 x.2.2.2.1] }]
noncomputable def a120 (extra : List Nat) (v : Nat) : Ann TT := fun r _ => cond (Nat.beq r 3001) (some {
   X := Nat
   phi := fun s => ∃ i, rgM extra v = some i /\ s <= i + 1 /\ 1024 <= v
   fr := fun s => [(4, iv .u64 s)]
   H := fun s => []
   mu := fun s => extra.length + 1 - s }) none
/-! WriteOffset -/
def c67 (B lens extra : List Nat) : Ctr TT where
 X := (WS × Nat × EV) × Nat × Nat × GV
 find a H := match a, H with
   | [.p 2 _ (.lit 0), .v (.int .u64 v), .p 5 _ (.lit 0), .p 6 _ (.lit 0)], [f, r, w, o, l, e, .B rb 141 [.c (.ro 215 y _), .r 43 1024 lut, .c _]] => (getWE lens [f, r, w, o, l, e]).map fun x => (x, v.toNat, rb, ⟨y, nats lut⟩)
   | _, _ => none
 phi x := (wsOK B x.1.1 /\ x.1.1.w.tot <= 4000 /\ Good lens /\ evOK lens x.1.2.2) /\ exOK extra /\ lutOK extra x.2.2.2.lut /\ ∃ i, rgM extra x.2.1 = some i /\ i < lens.length
 args x := [.p 2 x.1.1.wb (.lit 0), iv .u64 x.2.1, .p 5 x.1.2.1 (.lit 0), .p 6 x.2.2.1 (.lit 0)]
 H x := x.1.1.H ++ [encE lens x.1.2.1 x.1.2.2, rngE extra x.2.2.1 x.2.2.2]
 outs := [{ Y := fun _ => WV × Nat, psi := fun x y => rgM extra x.2.1 = some y.2 /\ wrt B (codeB lens y.2 ++ nb (x.2.1 - sum2 (extra.take y.2)) (extra.getD y.2 0)) x.1.1 y.1 /\ y.1.num <= 27, res := fun x _ => .t [], H := fun x y => (x.1.1.put y.1).H ++ [encE lens x.1.2.1 x.1.2.2, rngE extra x.2.2.1 x.2.2.2] }]
noncomputable def b67 (B lens extra : List Nat) : Nat -> Option (PT TT)
 | 120 => some (loc [none, none] (c120 extra).pt)
 | 66 => some (loc [none, none, none] (c66 B lens).pt)
 | 65 => some (exPT fun i => loc [none, none, none] (c65 (B ++ codeB lens i)).pt)
 | _ => none
end Pc
/-
 The contract of Reader.Read.
-/
set_option linter.unusedVariables false
set_option maxRecDepth 100000
open Go Go.Vg Go.Proofs
namespace Pc
structure BF where
 ox : Value
 l : List Int
 lo : Nat
 hi : Nat
 v : Value
def putAt (l : List Int) (lo : Nat) (bs : List Nat) : List Int := l.take lo ++ ints bs ++ l.drop (lo + bs.length)
structure c230OK (x : RS) (b : BF) : Prop where
 w : rsW x
 ok : 0 < x.num -> rsOK x
 al : x.P % 8 = 0
 room : b.lo <= b.hi /\ b.hi <= b.l.length
structure read230 (x : RS) (b : BF) (v : RV) (n : Nat) : Prop where
 w : rsW (x.adv v (8 * n))
 ok : 0 < v.num -> rsOK (x.adv v (8 * n))
 all : x.P + 8 * n <= 8 * x.bs.length
 room : n <= b.hi - b.lo
 some_ : b.lo < b.hi -> 0 < n
structure eof230 (x : RS) (v : RV) : Prop where
 w : rsW (x.put v)
 num : x.num = 0
 all : x.P = 8 * x.bs.length
def c230 (G : Gl) (P : Nat) : Ctr TT where
 X := RS × BF
 find a H := match a, H with
   | [.p 2 _ (.lit 0), .ov 5 5 ox lo hi v], [a0, a1, a2, a3, a4, .O _ 5 l] => match getRS P [a0, a1, a2, a3, a4] with
     | some x => some (x, ⟨ox, l, lo, hi, v⟩)
     | none => none
   | _, _ => none
 phi x := c230OK x.1 x.2
 args x := [.p 2 x.1.rb (.lit 0), .ov 5 5 x.2.ox x.2.lo x.2.hi x.2.v]
 H x := x.1.H ++ [.O x.2.ox 5 x.2.l]
 outs := [
   { Y := fun _ => RV × Nat, psi := fun x y => read230 x.1 x.2 y.1 y.2, res := fun x y => .t [iv .i64 y.2, .v .nilIface], H := fun x y => (x.1.put y.1).H ++ [.O x.2.ox 5 (putAt x.2.l x.2.lo ((x.1.bs.drop (x.1.P / 8)).take y.2))] },
   { Y := fun _ => RV, psi := fun x y => eof230 x.1 y, res := fun x y => .t [iv .i64 0, .v (errV G.E)], H := fun x y => (x.1.put y).H ++ [.O x.2.ox 5 x.2.l] }]
noncomputable def a230 (x : RS) (b : BF) : Ann TT := fun r S => match r, getRV (S.H.take 5) with
 | 5, some s => some {
   X := Nat × Nat
   phi := fun y => y.1 <= b.hi - b.lo /\ 8 * y.1 <= s.num /\ bkOK (x.W / 2 ^ (8 * y.1)) y.2 (s.num - 8 * y.1)
   fr := fun y => [(4, iv .i64 y.1)]
   H := fun y => [(2, .B x.rb 108 (segR 3 4 x.sb x.bb s.off y.2 (s.num - 8 * y.1) x.big s.pk s.pkn s.dis s.fed)), (5, .O b.ox 5 (putAt b.l b.lo ((x.bs.drop (x.P / 8)).take y.1)))]
   mu := fun y => b.hi - b.lo - y.1 }
 | _, _ => none
noncomputable def b230 : Nat -> Option (PT TT)
 | 80 => some (exPT fun P => loc [none] (c80 P).pt)
 | 164 => some (loc [none] c164.pt)
 | _ => none
theorem rs_takeB {x : RS} {v : RV} (h : rsOK (x.put v)) {n bits : Nat} (hn : n <= v.num) (hb : bkOK (x.W / 2 ^ n) bits (v.num - n)) : rsOK (x.adv { v with bits := bits, num := v.num - n } n) := by
 have al : (x.P + v.num) % 8 = 0 := h.l.al
 have en : x.P + v.num <= 8 * x.bs.length := h.l.end_
 have off : v.off <= (x.P + 7) / 8 := h.l.off
 have pk : vw x.bb v.arr x.bs v.pk v.pkn ((x.P + v.num) / 8) := h.l.pk
 have cov : ((x.P + v.num) / 8) + v.pkn <= v.pos + v.bn \/ (v.pkn = 0 /\ (x.P + v.num) / 8 <= (x.P + 7) / 8) := h.l.cov
 have dis : v.dis = (x.P : Int) - 8 * v.off - ((v.fed : Int) - v.num) := h.dis
 have fed : v.num <= v.fed /\ v.fed <= 64 := h.fed
 refine ⟨⟨h.l.bytes, h.l.len, ?_, ?_, ?_, ?_, h.l.pos, h.l.arr, ?_, h.l.bv, ?_⟩, ?_, ?_⟩
 . have e : x.W / 2 ^ n = (x.adv { v with bits := bits, num := v.num - n } n).W := by
     unfold RS.W
     rw [Nat.div_div_eq_div_mul, <- Nat.pow_add]; rfl
   rw [e] at hb
   exact hb
 . show (x.P + n + (v.num - n)) % 8 = 0
   omega
 . show x.P + n + (v.num - n) <= 8 * x.bs.length
   omega
 . show v.off <= (x.P + n + 7) / 8
   omega
 . exact vw_at pk (show (x.P + v.num) / 8 = (x.P + n + (v.num - n)) / 8 by omega)
 . show ((x.P + n + (v.num - n)) / 8) + v.pkn <= v.pos + v.bn \/ (v.pkn = 0 /\ (x.P + n + (v.num - n)) / 8 <= (x.P + n + 7) / 8)
   omega
 . show v.dis = ((x.P + n : Nat) : Int) - 8 * v.off - ((v.fed : Int) - ((v.num - n : Nat) : Int))
   omega
 . show v.num - n <= v.fed /\ v.fed <= 64
   omega
theorem rs_read {x : RS} (h : rsW x) (h0 : x.num = 0) (hP : x.P % 8 = 0) {n : Nat} (hn : x.P + 8 * n <= 8 * x.bs.length) {dis : Int} (hd : dis = 0) {bits : Nat} {prev : Int} :
   rsW (x.adv ⟨(x.P + 7) / 8 + n, bits, x.num, .slice none 0 0, 0, dis, x.num, x.pos, x.bv, x.bn, x.arr, prev⟩ (8 * n)) := by
 have hp := h.pos
 have ho := h.off
 refine ⟨h.bytes, h.len, h.n, ?_, ?_, ?_, ?_, h.arr, vw_nil _ _ _ _, h.bv, ?_, ?_, ?_⟩
 . show (x.P + 8 * n + x.num) % 8 = 0
   omega
 . show x.P + 8 * n + x.num <= 8 * x.bs.length
   omega
 . show (x.P + 7) / 8 + n <= (x.P + 8 * n + 7) / 8
   omega
 . show x.pos <= (x.P + 7) / 8 + n
   omega
 . show ((x.P + 8 * n + x.num) / 8) + 0 <= x.pos + x.bn \/ ((0 : Nat) = 0 /\ (x.P + 8 * n + x.num) / 8 <= (x.P + 8 * n + 7) / 8)
   omega
 . show dis = ((x.P + 8 * n : Nat) : Int) - 8 * (((x.P + 7) / 8 + n : Nat) : Int) - ((x.num : Int) - x.num)
   omega
 . show x.num <= x.num /\ x.num <= 64
   have := h.n
   omega
theorem read_direct {x : RS} {b : BF} (h : c230OK x b) (h0 : x.num = 0) {n : Nat} (hn : n = min (x.bs.length - (x.P + 7) / 8) (b.hi - b.lo)) (hp : 0 < x.bs.length - (x.P + 7) / 8) {dis : Int} (hd : dis = 0) {bits : Nat} {prev : Int} :
   read230 x b ⟨(x.P + 7) / 8 + n, bits, x.num, .slice none 0 0, 0, dis, x.num, x.pos, x.bv, x.bn, x.arr, prev⟩ n where
 w := rs_read h.w h0 h.al (by have := h.al; omega) hd
 ok := fun h1 => by
   have h1 : 0 < x.num := h1
   omega
 all := by have := h.al; omega
 room := by omega
 some_ := fun h1 => by omega
theorem putAt_set {l : List Int} {lo c z : Nat} {D : List Nat} (hc : D[c]? = some z) (hl : lo + c < l.length) : (putAt l lo (D.take c)).set (lo + c) (z : Int) = putAt l lo (D.take (c + 1)) := by
 have hcl := (List.getElem?_eq_some_iff.1 hc).1
 unfold putAt
 have e1 : (D.take c).length = c := by rw [List.length_take]; omega
 have e2 : (D.take (c + 1)).length = c + 1 := by rw [List.length_take]; omega
 have e3 : (l.take lo ++ ints (D.take c)).length = lo + c := by rw [List.length_append, List.length_take, ints_len, e1]; omega
 have e4 : l.drop (lo + c) = l[lo + c] :: l.drop (lo + c + 1) := (List.getElem_cons_drop hl).symm
 rw [e1, e2, take_succ hc, List.set_append_right _ _ (by rw [e3]; exact Nat.le_refl _), e3, Nat.sub_self, e4, List.set_cons_zero]
 simp [ints, Nat.add_assoc]
theorem putAt_put {l : List Int} {D : List Nat} {n k : Nat} (h1 : n + k <= l.length) (h2 : n + k <= D.length) : putAt (putAt l 0 (D.take n)) n ((D.drop n).take k) = putAt l 0 (D.take (n + k)) := by
 have e1 : (D.take n).length = n := by rw [List.length_take]; omega
 have e2 : ((D.drop n).take k).length = k := by rw [List.length_take, List.length_drop]; omega
 have e3 : (D.take (n + k)).length = n + k := by rw [List.length_take]; omega
 unfold putAt
 rw [e1, e2, e3, List.take_zero, List.nil_append, List.nil_append]
 have t1 : ∀ B : List Int, List.take n (ints (D.take n) ++ B) = ints (D.take n) := fun B => List.take_left' (by rw [ints_len, e1])
 have t2 : ∀ B : List Int, List.drop (n + k) (ints (D.take n) ++ B) = B.drop k := fun B => by
   rw [List.drop_append, List.drop_eq_nil_of_le (by rw [ints_len, e1]; omega), List.nil_append, ints_len, e1, Nat.add_sub_cancel_left]
 rw [t1, t2, List.drop_drop, List.take_add]
 simp only [ints, List.map_append]
 rw [Nat.zero_add, Nat.zero_add]
theorem putAt_all {l : List Int} {D : List Nat} (h : l.length <= D.length) : putAt l 0 (D.take l.length) = ints (D.take l.length) := by
 have e : (D.take l.length).length = l.length := by rw [List.length_take]; omega
 unfold putAt
 rw [e, List.take_zero, List.nil_append, Nat.zero_add, List.drop_length, List.append_nil]
theorem putAt_len {l : List Int} {D : List Nat} {n : Nat} (h1 : n <= l.length) (h2 : n <= D.length) : (putAt l 0 (D.take n)).length = l.length := by
 unfold putAt
 rw [List.take_zero, List.nil_append, List.length_append, ints_len, List.length_drop, List.length_take]
 omega
theorem putAt_nil (l : List Int) (lo : Nat) : putAt l lo [] = l := by
 unfold putAt
 simp [ints]
theorem byte_twice : ∀ n : Fin 256, numL (byteBits true (numL (byteBits true n.val))) = n.val := by decide +kernel
theorem byte_at {x : RS} (hP : x.P % 8 = 0) {c bits k : Nat} (hb : bkOK (x.W / 2 ^ (8 * c)) bits k) (hk : 8 <= k) {z : Nat} (hz : (x.bs.drop (x.P / 8))[c]? = some z) : bits % 256 = numL (byteBits x.big z) := by
 rw [List.getElem?_drop] at hz
 rw [byte_mod x.big hz, show 8 * (x.P / 8 + c) = x.P + 8 * c by omega, Nat.pow_add, <- Nat.div_div_eq_div_mul]
 exact bk_val hb hk
theorem bk_step {W bits num c : Nat} (hb : bkOK (W / 2 ^ (8 * c)) bits (num - 8 * c)) (h : 8 * c + 8 <= num) : bkOK (W / 2 ^ (8 * (c + 1))) (bits / 2 ^ 8) (num - 8 * (c + 1)) := by
 have := bk_less hb (nb := 8) (by omega)
 rw [Nat.div_div_eq_div_mul, <- Nat.pow_add] at this
 rw [show 8 * (c + 1) = 8 * c + 8 by omega, show num - (8 * c + 8) = num - 8 * c - 8 by omega]
 exact this
theorem putAt_length {l : List Int} {lo : Nat} {bs : List Nat} (h : lo + bs.length <= l.length) : (putAt l lo bs).length = l.length := by
 unfold putAt
 rw [List.length_append, List.length_append, ints_len, List.length_drop, List.length_take]
 omega
end Pc
/-
 The contract of ReadAtLeast, over a reader of bits.
-/
set_option linter.unusedVariables false
set_option maxRecDepth 100000
open Go Go.Vg Go.Proofs
namespace Pc
structure c145OK (x : RS) (l : List Int) : Prop where
 w : rsW x
 ok : 0 < x.num -> rsOK x
 al : x.P % 8 = 0
structure full145 (x : RS) (n : Nat) (v : RV) : Prop where
 w : rsW (x.adv v (8 * n))
 ok : 0 < v.num -> rsOK (x.adv v (8 * n))
 all : x.P + 8 * n <= 8 * x.bs.length
structure ends145 (x : RS) (l : List Int) (v : RV) (n : Nat) (row : List Int) : Prop where
 w : rsW (x.adv v (8 * n))
 all : 8 * x.bs.length < x.P + 8 * l.length
def c145 (G : Gl) (P : Nat) : Ctr TT where
 X := RS × Value × List Int
 find a H := match a, H with
   | [.i 113 (.p 2 _ (.lit 0)), .o 5 5 bx _, _], [a0, a1, a2, a3, a4, .O _ 5 l] => match getRS P [a0, a1, a2, a3, a4] with
     | some x => some (x, bx, l)
     | none => none
   | _, _ => none
 phi x := c145OK x.1 x.2.2
 args x := [.i 113 (.p 2 x.1.rb (.lit 0)), .o 5 5 x.2.1 x.2.2.length, iv .i64 x.2.2.length]
 H x := x.1.H ++ [.O x.2.1 5 x.2.2]
 outs := [
   { Y := fun _ => RV, psi := fun x y => full145 x.1 x.2.2.length y, res := fun x y => .t [iv .i64 x.2.2.length, .v .nilIface], H := fun x y => (x.1.put y).H ++ [.O x.2.1 5 (ints ((x.1.bs.drop (x.1.P / 8)).take x.2.2.length))] },
   { Y := fun _ => RV × Nat × Addr × List Int, psi := fun x y => ends145 x.1 x.2.2 y.1 y.2.1 y.2.2.2, res := fun x y => .t [iv .i64 y.2.1, .v (errV y.2.2.1)], H := fun x y => (x.1.put y.1).H ++ [.O x.2.1 5 y.2.2.2] }]
structure at145 (x : RS) (l : List Int) (v : RV) (n : Nat) : Prop where
 w : rsW (x.adv v (8 * n))
 ok : 0 < v.num -> rsOK (x.adv v (8 * n))
 all : x.P + 8 * n <= 8 * x.bs.length
 le : n <= l.length
noncomputable def a145 (x : RS) (bx : Value) (l : List Int) : Ann TT := fun r S => match r with
 | 3 => some {
   X := RV × Nat
   phi := fun y => at145 x l y.1 y.2
   fr := fun y => [(6, iv .i64 y.2), (7, .v .nilIface)]
   H := fun y => (x.put y.1).H3 ++ [(5, .O bx 5 (putAt l 0 ((x.bs.drop (x.P / 8)).take y.2)))]
   mu := fun y => l.length - y.2
   alt := fun S => match S.get 7 with
     | some (.v .nilIface) => false
     | _ => true }
 | _ => none
noncomputable def b145 (G : Gl) : Nat -> Option (PT TT)
 | 230 => some (exPT fun P => loc [none, none] (c230 G P).pt)
 | _ => none
theorem rsW_m {x y : RS} (h : rsW x) (e : y = { x with m := y.m, rel := y.rel }) : rsW y := by
 rw [e]
 exact ⟨h.bytes, h.len, h.n, h.al, h.end_, h.off, h.pos, h.arr, h.pk, h.bv, h.cov, h.dis, h.fed⟩
theorem at145_ok {x : RS} {l : List Int} {v : RV} {n : Nat} (h : at145 x l v n) (hP : x.P % 8 = 0) (m : Fz) {row : List Int} (hr : row.length = l.length) {bx va : Value} : c230OK { x.adv v (8 * n) with m := m } ⟨bx, row, n, l.length, va⟩ where
 w := rsW_m h.w rfl
 ok := fun h0 => rs_m (h.ok h0) rfl
 al := by show (x.P + 8 * n) % 8 = 0; omega
 room := ⟨h.le, by show l.length <= row.length; omega⟩
theorem at145_next {x : RS} {l : List Int} {v : RV} {n : Nat} (h : at145 x l v n) {m : Fz} {b : BF} {u : RV} {k : Nat} (hu : read230 { x.adv v (8 * n) with m := m } b u k) (hb : b.hi - b.lo = l.length - n) : at145 x l u (n + k) where
 w := by
   refine rsW_m hu.w ?_
   unfold RS.adv RS.put
   simp only [Nat.mul_add, Nat.add_assoc]
 ok := fun h0 => by
   refine rs_m (hu.ok h0) ?_
   unfold RS.adv RS.put
   simp only [Nat.mul_add, Nat.add_assoc]
 all := by
   have h1 : x.P + 8 * n + 8 * k <= 8 * x.bs.length := hu.all
   omega
 le := by
   have := hu.room
   have := h.le
   omega
theorem at145_eof {x : RS} {l : List Int} {v : RV} {n : Nat} (h : at145 x l v n) (hn : n < l.length) {m : Fz} {u : RV} (hu : eof230 { x.adv v (8 * n) with m := m } u) {row : List Int} : ends145 x l u n row where
 w := rsW_m hu.w rfl
 all := by
   have h1 : x.P + 8 * n = 8 * x.bs.length := hu.all
   omega
end Pc
/-
 Contracts of the pieces of readParts.
-/
set_option linter.unusedVariables false
set_option maxRecDepth 100000
open Go Go.Vg Go.Proofs
namespace Pc
/-! codes, rangeCodes -/
def c62 : Ctr TT where
 X := Fz × Rel TT × Value × List Nat
 find a H := match a, H with
   | [.ro 90 x l], [.F m, .R rel] => some (m, rel, x, lensOf l)
   | _, _ => none
 phi x := x.2.2.2.length <= 60
 args x := [.ro 90 x.2.2.1 (canonL x.2.2.2)]
 H x := fr2 x.1 x.2.1
 outs := [{ Y := fun _ => Value, psi := fun x _ => True, res := fun x y => .ro 210 y (canonL x.2.2.2), H := fun x _ => fr2 x.1 x.2.1 }]
noncomputable def a62 (ns : List Nat) : Ann TT := fun r S => match r with
 | 3 => match S.get 3 with
   | some (.o h 210 _ _) => some {
     X := Nat × Value
     phi := fun y => y.1 <= ns.length
     fr := fun y => [(3, .o h 210 y.2 y.1), (9, iv .i64 y.1)]
     H := fun y => [(h, .O y.2 210 ((canonL ns).take y.1))]
     mu := fun y => ns.length - y.1 }
   | _ => some {
     pre := [.own 3 210]
     X := Nat × Value
     phi := fun y => y.1 <= ns.length
     fr := fun y => [(3, .o 2 210 y.2 y.1), (9, iv .i64 y.1)]
     H := fun y => [(2, .O y.2 210 ((canonL ns).take y.1))]
     mu := fun y => ns.length - y.1 }
 | _ => none
def c64 : Ctr TT where
 X := Fz × Rel TT × Value × List Nat
 find a H := match a, H with
   | [.ro 97 x l], [.F m, .R rel] => some (m, rel, x, extraOf l)
   | _, _ => none
 phi x := x.2.2.2.length <= 30
 args x := [.ro 97 x.2.2.1 (rgL 0 x.2.2.2)]
 H x := fr2 x.1 x.2.1
 outs := [{ Y := fun _ => Value, psi := fun x _ => True, res := fun x y => .ro 215 y (rgL 0 x.2.2.2), H := fun x _ => fr2 x.1 x.2.1 }]
noncomputable def a64 (ns : List Nat) : Ann TT := fun r S => match r with
 | 3 => some {
     pre := [.own 3 215]
     X := Nat × Value
     phi := fun y => y.1 <= ns.length
     fr := fun y => [(3, .o 2 215 y.2 y.1), (8, iv .i64 y.1)]
     H := fun y => [(2, .O y.2 215 ((rgL 0 ns).take y.1))]
     mu := fun y => ns.length - y.1 }
 | _ => none
end Pc
/-
 The contract of ReadOffset.
-/
set_option linter.unusedVariables false
set_option maxRecDepth 100000
open Go Go.Vg Go.Proofs
namespace Pc
structure lacks2 (x : RS) (n : Nat) (v : RV) : Prop where
 ok : ∃ k, rsOK (x.adv v k)
 all : 8 * x.bs.length < x.P + n
structure ends1 (x : RS) (lens : List Nat) (v : RV) : Prop where
 all : 8 * x.bs.length < x.P + cl lens x.W
 ok : rsOK (x.put v)
structure ends2 (x : RS) (lens ex : List Nat) (v : RV) : Prop where
 one : x.P + cl lens x.W <= 8 * x.bs.length
 two : lacks2 x (cl lens x.W + ex.getD (cd lens x.W) 0) v
structure c106OK (x : RS) (lens : List Nat) (d : DC) (ex : List Nat) : Prop where
 ok : rsOK x
 dec : decOK x.rel lens d
 len : ex.length <= 30
 small : ∀ n ∈ ex, n <= 20
 has : cl lens x.W <= 8 * x.bs.length - x.P -> cd lens x.W < ex.length
def c106 (G : Gl) (P : Nat) (lens : List Nat) : Ctr TT where
 X := RS × DC × Value × List Nat
 find a H := match a, H with
   | [.p 2 _ (.lit 0), .p 5 _ (.lit 0), .ro 215 rv rl], [a0, a1, a2, a3, a4, a5] => match getRS P [a0, a1, a2, a3, a4], getDC a5 with
     | some x, some d => some (x, d, rv, extraOf rl)
     | _, _ => none
   | _, _ => none
 phi x := c106OK x.1 lens x.2.1 x.2.2.2
 args x := [.p 2 x.1.rb (.lit 0), .p 5 x.2.1.db (.lit 0), .ro 215 x.2.2.1 (rgL 0 x.2.2.2)]
 H x := x.1.H ++ [.B x.2.1.db 201 (segD x.2.1)]
 outs := [{ Y := fun _ => RV, psi := fun x y => took x.1 (cl lens x.1.W + x.2.2.2.getD (cd lens x.1.W) 0) y, res := fun x _ => iv .u64 (sum2 (x.2.2.2.take (cd lens x.1.W)) + x.1.W / 2 ^ cl lens x.1.W % 2 ^ x.2.2.2.getD (cd lens x.1.W) 0), H := fun x y => (x.1.put y).H ++ [.B x.2.1.db 201 (segD x.2.1)] }]
 pans := [
   { Y := fun _ => RV × Nat, psi := fun x y => ends1 x.1 lens y.1, res := fun x y => .i 264 (.a [.c (.p 6 y.2 (.lit 0))]), H := fun x y => (x.1.put y.1).H ++ [.B x.2.1.db 201 (segD x.2.1), errEnt G y.2] },
   { Y := fun _ => RV × Nat × Nat × Int × Int, psi := fun x y => ends2 x.1 lens x.2.2.2 y.1, res := fun x y => .i 264 (.a [.c (.p 7 y.2.1 (.lit 0))]), H := fun x y => (x.1.put y.1).H ++ [.B x.2.1.db 201 (segD x.2.1), .B y.2.2.1 215 [.c (.v (.int .u32 y.2.2.2.1)), .c (.v (.int .u32 y.2.2.2.2))], errEnt G y.2.1] }]
noncomputable def b106 (G : Gl) (lens : List Nat) : Nat -> Option (PT TT)
 | 105 => some (exPT fun P => loc [none, none] (c105 G P lens).pt)
 | 103 => some (exPT fun P => loc [none, none] (c103 G P).pt)
 | _ => none
end Pc
/-
 The contract of readParts.
-/
set_option linter.unusedVariables false
set_option maxRecDepth 100000
open Go Go.Vg Go.Proofs
namespace Pc
theorem isRo_mono {r r' : Rel TT} (h : relLe r r') {e : TypeId} {v : Value} {l : List (TT.El e)} (k : isRo r e v l) : isRo r' e v l := by
 rcases k with k | k
 . exact .inl (h _ _ _ k)
 . exact .inr k
theorem decOK_mono {r r' : Rel TT} (h : relLe r r') {lens : List Nat} {d : DC} (k : decOK r lens d) : decOK r' lens d :=
 ⟨k.good, k.cb, k.cm, k.len, k.mb, k.short, fun v hv => by
   obtain ⟨a, sl, tb, lb, h1, h2, h3, h4, h5⟩ := k.long v hv
   exact ⟨a, sl, tb, lb, h1, h2, h3, isRo_mono h h4, h5⟩⟩
structure X53 where
 x : RS
 vl : Value
 l : List Pt
 vc : Value
 vr : Value
 extra : List Nat
def X53.xrr (x : X53) (lens : List Nat) (r : Rel TT) : XR := ⟨x.x.m, r, x.vl, x.l, x.vc, lens, x.vr, x.extra, x.x.vs, x.x.bs, x.x.big⟩
def X53.xr (x : X53) (lens : List Nat) : XR := x.xrr lens x.x.rel
theorem bad_r {x : X53} {lens : List Nat} {r : Rel TT} (h : bad20 (x.xrr lens r)) : bad20 (x.xr lens) := h
structure c53OK (lens : List Nat) (x : X53) : Prop where
 ok : rsOK x.x
 P0 : x.x.P = 0
 xr : xrOK (x.xr lens)
 run : ¬ bad20 (x.xr lens)
def RS.re (x : RS) (v : RV) (P : Nat) (rel : Rel TT) : RS := { x.adv v P with rel := rel }
structure ps53 (lens : List Nat) (x : X53) (y : Y20) (v : RV) : Prop where
 ps : ps20 (x.xr lens) y
 w : ∃ P, rsW (x.x.adv v P)
def getRS0 : List (Ent TT) -> Option RS
 | [.F m, .R rel, .B rb 108 [.c (.v (.int _ off)), .c (.i 110 (.p 3 sb _)), .c (.v .nilIface), .c (.i 105 (.p 4 bb _)), .c (.v (.int _ bits)), .c (.v (.int _ num)), .c (.v (.bool big)), .c (.v pk), .c (.v (.int _ dis)), .c (.v (.int _ fed)), _, _, _],
     .B _ 198 [.c (.ro 5 vs l), .c (.v (.int _ i)), .c (.v (.int _ prev))], .B _ 190 [.c (.p 3 _ _), .c (.v (.int _ pos)), .c (.v bv), .r 5 512 arr]] =>
   some ⟨m, rel, rb, sb, bb, vs, nats l, big, 0, off.toNat, bits.toNat, num.toNat, pk, 0, dis, fed.toNat, pos.toNat, bv, 0, arr, prev⟩
 | _ => none
def c53 (G : Gl) (lens : List Nat) : Ctr TT where
 X := X53
 find a H := match a with
   | [.p 2 _ (.lit 0), .ro 36 vl l, .ro 90 vc _, .ro 97 vr r, .v (.bool false)] => match getRS 0 H with
     | some x => some ⟨x, vl, l, vc, vr, extraOf r⟩
     | none => match getRS0 H with
       | some x => some ⟨x, vl, l, vc, vr, extraOf r⟩
       | none => none
   | _ => none
 phi x := c53OK lens x
 args x := [.p 2 x.x.rb (.lit 0), .ro 36 x.vl x.l, .ro 90 x.vc (canonL lens), .ro 97 x.vr (rgL 0 x.extra), bv false]
 H x := x.x.H
 outs := [{
   Y := fun _ => Y20 × RV
   psi := fun x y => ps53 lens x y.1 y.2
   res := fun x y => .t [.ro 36 y.1.gv y.1.gl, .v (.int .i64 (wrong y.1.st y.1.gl.length)), iv .i64 (8 * x.x.bs.length - y.1.left)]
   H := fun x y => (x.x.re y.2 0 y.1.rel).H }]
structure Y53 where
 i : Nat
 gx : Value
 gl : List Pt
 rel : Rel TT
 its : List RIt
 P : Nat
 v : RV
structure ph53 (lens : List Nat) (x : X53) (r1 : Rel TT) (y : Y53) : Prop where
 ph : ph20 (x.xrr lens r1) ⟨y.i, y.gx, y.gl, y.rel, y.its, (bitsOf x.x.big x.x.bs).drop y.P, .nilIface⟩
 P : y.P <= 8 * x.x.bs.length
 w : rsW (x.x.adv y.v y.P)
 ok : 0 < y.v.num -> rsOK (x.x.adv y.v y.P)
 no : pb x.l y.i = false -> rsOK (x.x.adv y.v y.P)
noncomputable def inv53 (lens : List Nat) (x : X53) (r1 : Rel TT) (h : Nat) : Inv TT where
 pre := [.own 10 36]
 X := Y53
 phi := fun y => ph53 lens x r1 y
 fr := fun y => [(10, .o h 36 y.gx y.gl.length), (25, iv .i64 y.i), (12, iv .i64 y.P)]
 H := fun y => (1, .R y.rel) :: (x.x.put y.v).H3 ++ [(h, .O y.gx 36 y.gl)]
 mu := fun y => x.l.length - y.i
def invNone : Inv TT where
 X := Unit
 phi := fun _ => False
 fr := fun _ => [(9999, .un)]
 H := fun _ => []
 mu := fun _ => 0
noncomputable def a53 (lens : List Nat) (x : X53) : Ann TT := fun r S => match r, S.H with
 | 6, _ :: .R r1 :: _ => match S.ent 9 with
   | .B _ _ (.c (.ro _ _ _) :: _) => some (inv53 lens x r1 S.H.length)
   | _ => some invNone
 | _, _ => none
noncomputable def b53 (G : Gl) (lens : List Nat) : Nat -> Option (PT TT)
 | 62 => some (loc [some 90] c62.pt)
 | 64 => some (loc [some 97] c64.pt)
 | 100 => some (loc [none, some 210] c100.pt)
 | 103 => some (exPT fun P => loc [none, none] (c103 G P).pt)
 | 105 => some (exPT fun P => loc [none, none] (c105 G P lens).pt)
 | 106 => some (exPT fun P => loc [none, none, some 215] (c106 G P lens).pt)
 | 107 => some (exPT fun P => loc [none] (c107 P).pt)
 | 109 => some (exPT fun P => loc [none] (c109 P).pt)
 | 145 => some (exPT fun P => loc [none, none, none] (c145 G P).pt)
 | _ => none
theorem extraOf_rgL : ∀ (l : List Nat) (b : Nat), extraOf (rgL b l) = l
 | [], _ => rfl
 | n :: r, b => by
   have := extraOf_rgL r (b + 2 ^ n)
   unfold extraOf at this
   unfold extraOf rgL
   rw [List.map_cons, this]
   simp
def Y53.B (x : X53) (y : Y53) : List Nat := (bitsOf x.x.big x.x.bs).drop y.P
theorem len53 {lens : List Nat} {x : X53} {r1 : Rel TT} {y : Y53} (h : ph53 lens x r1 y) : (y.B x).length = 8 * x.x.bs.length - y.P := by
 unfold Y53.B
 rw [List.length_drop, bitsOf_len]
theorem lt53 (x : X53) (y : Y53) : ∀ b ∈ y.B x, b < 2 := fun b hb => bitsOf_lt _ _ b (List.mem_of_mem_drop hb)
theorem num53 {lens : List Nat} {x : X53} {r1 : Rel TT} {y : Y53} (h : ph53 lens x r1 y) : numL (y.B x) = numL (bitsOf x.x.big x.x.bs) / 2 ^ y.P := by
 unfold Y53.B
 rw [numL_drop (bitsOf_lt _ _) (by rw [bitsOf_len]; exact h.P)]
theorem behind53 {lens : List Nat} {x : X53} {r1 : Rel TT} {y : Y53} (hx : ¬ bad20 (x.xr lens)) (h : ph53 lens x r1 y) {p : Pt} (hp : x.l[y.i]? = some p) : pb x.l y.i = true -> p.kind = 4 := by
 intro hb
 refine Decidable.byContradiction fun hk => hx ?_
 exact bad_r (ph20_behind h.ph hp hb hk)
theorem bad53 {lens : List Nat} {x : X53} {r1 : Rel TT} {y : Y53} (hx : ¬ bad20 (x.xr lens)) (h : ph53 lens x r1 y) {p : Pt} (hp : x.l[y.i]? = some p) : stepM lens x.extra x.x.bs (y.B x) p ≠ .bad := fun hs => hx (bad_r (ph20_bad h.ph hp (behind53 hx h hp) hs))
theorem next53 {lens : List Nat} {x : X53} {r1 : Rel TT} {y : Y53} (hx : ¬ bad20 (x.xr lens)) (h : ph53 lens x r1 y) {p : Pt} (hp : x.l[y.i]? = some p) {it : RIt} {n : Nat} (hs : stepM lens x.extra x.x.bs (y.B x) p = .got it n)
   {gx : Value} {rel : Rel TT} {q : Pt} {u : RV} (hr : relLe y.rel rel) (hq : itOK rel it q) (hP : y.P + n <= 8 * x.x.bs.length) (hw : rsW (x.x.adv u (y.P + n))) (hok : 0 < u.num -> rsOK (x.x.adv u (y.P + n))) (hno : p.kind ≠ 4 -> rsOK (x.x.adv u (y.P + n))) :
   ph53 lens x r1 ⟨y.i + 1, gx, y.gl ++ [q], rel, y.its ++ [it], y.P + n, u⟩ where
 ph := by
   have := ph20_next (gx := gx) (w := .nilIface) h.ph hp (behind53 hx h hp) hs hr hq
   dsimp only at this
   rw [List.drop_drop] at this
   exact this
 P := hP
 w := hw
 ok := hok
 no := fun hb => hno fun hk => by rw [pb_next hp, hk] at hb; simp at hb
theorem stop53 {lens : List Nat} {x : X53} {r1 : Rel TT} {y : Y53} (hx : ¬ bad20 (x.xr lens)) (hr1 : relLe x.x.rel r1) (h : ph53 lens x r1 y) {p : Pt} (hp : x.l[y.i]? = some p) (hs : stepM lens x.extra x.x.bs (y.B x) p = .stop)
   {gv : Value} {rel : Rel TT} (hr : relLe y.rel rel) {u : RV} (hw : ∃ P, rsW (x.x.adv u P)) : ps53 lens x ⟨gv, y.gl, rel, y.its, true, 8 * x.x.bs.length - y.P⟩ u where
 ps := by
   have := ph20_stop (gv := gv) h.ph hp (behind53 hx h hp) hs hr
   dsimp only at this
   rw [show ((bitsOf x.x.big x.x.bs).drop y.P).length = 8 * x.x.bs.length - y.P from len53 h] at this
   exact ⟨this.run, this.its, hr1.trans this.rel, this.left, this.len⟩
 w := hw
theorem end53 {lens : List Nat} {x : X53} {r1 : Rel TT} {y : Y53} (hr1 : relLe x.x.rel r1) (h : ph53 lens x r1 y) (hi : y.i = x.l.length) {gv : Value} : ps53 lens x ⟨gv, y.gl, y.rel, y.its, false, 8 * x.x.bs.length - y.P⟩ y.v where
 ps := by
   have := ph20_end (gv := gv) h.ph hi
   dsimp only at this
   rw [show ((bitsOf x.x.big x.x.bs).drop y.P).length = 8 * x.x.bs.length - y.P from len53 h] at this
   exact ⟨this.run, this.its, hr1.trans this.rel, this.left, this.len⟩
 w := ⟨_, h.w⟩
theorem start53 {lens : List Nat} {x : X53} {r1 : Rel TT} (hx : c53OK lens x) (hr1 : relLe x.x.rel r1) : ph53 lens x r1 ⟨0, .slice none 0 0, [], r1, [], 0, ⟨x.x.off, x.x.bits, x.x.num, x.x.pk, x.x.pkn, x.x.dis, x.x.fed, x.x.pos, x.x.bv, x.x.bn, x.x.arr, x.x.prev⟩⟩ where
 ph := {
   i := Nat.zero_le _
   rel := relLe.refl _
   its := trivial
   len := rfl
   bit := fun b hb => bitsOf_lt _ _ b hb
   all := by show (bitsOf x.x.big x.x.bs).length <= 8 * x.x.bs.length; rw [bitsOf_len]; exact Nat.le_refl _
   run := by
     show readM lens x.extra x.x.bs x.l (bitsOf x.x.big x.x.bs) false = pref [] (readM lens x.extra x.x.bs x.l (bitsOf x.x.big x.x.bs) false)
     rcases readM lens x.extra x.x.bs x.l (bitsOf x.x.big x.x.bs) false with _ | ⟨a, b, c⟩ <;> rfl }
 P := Nat.zero_le _
 w := hx.ok.w
 ok := fun _ => hx.ok
 no := fun _ => hx.ok
theorem len_gl {lens : List Nat} {x : X53} {r1 : Rel TT} {y : Y53} (h : ph53 lens x r1 y) : y.gl.length = y.i := h.ph.len
/-! What a step reads. -/
theorem step0 {lens extra bs B : List Nat} {p : Pt} (hk : p.kind = 0) (hb : ∀ b ∈ B, b < 2) : stepM lens extra bs B p = if B.length < p.n.toNat then .stop else .got ⟨0, numL B % 2 ^ p.n.toNat, []⟩ p.n.toNat := by
 unfold stepM
 rw [if_pos hk]
 split
 . rfl
 . rw [numL_take hb (by omega)]
theorem step1 {lens extra bs B : List Nat} {p : Pt} (hk : p.kind = 1) : stepM lens extra bs B p = if cl lens (numL B) <= B.length then .got ⟨1, cd lens (numL B), []⟩ (cl lens (numL B)) else .stop := by
 unfold stepM symM
 rw [if_neg (by omega), if_pos hk]
 by_cases h : cl lens (numL B) <= B.length
 . rw [if_pos h, if_pos h]; rfl
 . rw [if_neg h, if_neg h]
theorem step2 {lens extra bs B : List Nat} {p : Pt} (hk : p.kind = 2) (hb : ∀ b ∈ B, b < 2) : stepM lens extra bs B p = if cl lens (numL B) <= B.length then (if extra.length <= cd lens (numL B) then .bad else if B.length < cl lens (numL B) + extra.getD (cd lens (numL B)) 0 then .stop
     else .got ⟨2, sum2 (extra.take (cd lens (numL B))) + numL B / 2 ^ cl lens (numL B) % 2 ^ extra.getD (cd lens (numL B)) 0, []⟩ (cl lens (numL B) + extra.getD (cd lens (numL B)) 0)) else .stop := by
 unfold stepM symM
 rw [if_neg (by omega), if_neg (by omega), if_pos hk]
 by_cases h : cl lens (numL B) <= B.length
 . rw [if_pos h, if_pos h]
   dsimp only
   have e : lens.getD (cd lens (numL B)) 0 = cl lens (numL B) := rfl
   rw [e]
   by_cases h2 : extra.length <= cd lens (numL B)
   . rw [if_pos h2, if_pos h2]
   . rw [if_neg h2, if_neg h2]
     by_cases h3 : B.length < cl lens (numL B) + extra.getD (cd lens (numL B)) 0
     . rw [if_pos (by omega), if_pos h3]
     . rw [if_neg (by omega), if_neg h3, numL_take (fun b hb' => hb b (List.mem_of_mem_drop hb')) (by rw [List.length_drop]; omega), numL_drop hb h]
       have hi : cd lens (numL B) < (rgL 0 extra).length := by rw [rgL_len]; omega
       obtain ⟨n, h4, h5⟩ := rgL_sum (List.getElem?_eq_getElem hi)
       have e2 : (rgL 0 extra).getD (cd lens (numL B)) ⟨0, 0⟩ = (rgL 0 extra)[cd lens (numL B)] := by
         rw [List.getD_eq_getElem?_getD, List.getElem?_eq_getElem hi]; rfl
       rw [e2, h5]
       simp
 . rw [if_neg h, if_neg h]
theorem step3 {lens extra bs B : List Nat} {p : Pt} (hk : p.kind = 3) (hb : ∀ b ∈ B, b < 2) : stepM lens extra bs B p = .got ⟨3, numL B % 2 ^ (B.length % 8), []⟩ (B.length % 8) := by
 unfold stepM
 rw [if_neg (by omega), if_neg (by omega), if_neg (by omega), if_pos hk, numL_take hb (Nat.mod_le _ _)]
theorem step4 {lens extra bs B : List Nat} {p : Pt} (hk : p.kind = 4) : stepM lens extra bs B p = if B.length % 8 ≠ 0 then .bad else if B.length / 8 < p.n.toNat then .stop else .got ⟨4, 0, (bs.drop (bs.length - B.length / 8)).take p.n.toNat⟩ (8 * p.n.toNat) := by
 unfold stepM
 rw [if_neg (by omega), if_neg (by omega), if_neg (by omega), if_neg (by omega), if_pos hk]
theorem isRo_nil {r : Rel TT} : isRo r 5 (slN.val) (ints []) := .inr ⟨rfl, rfl⟩
theorem adv0 {x : RS} (h : x.P = 0) (v : RV) (P : Nat) : x.adv v P = { x.put v with P := P } := by
 unfold RS.adv
 rw [h, Nat.zero_add]
theorem decOK_db {r : Rel TT} {lens : List Nat} {d : DC} (k : decOK r lens d) (b : Nat) : decOK r lens ⟨b, d.cv, d.ch, d.lv, d.lk, d.cm, d.lm, d.cb, d.mb, d.ns⟩ :=
 ⟨k.good, k.cb, k.cm, k.len, k.mb, k.short, k.long⟩
theorem room48 {n : Nat} (h : n <= 60) : room (n + 1) 48 := ⟨by omega, by omega⟩
theorem mnI_small {n : Int} (h0 : 0 <= n) (h : n <= 40) : mnI n 100000 = ((n.toNat : Nat) : Int) := by
 unfold mnI
 rw [if_neg (by omega)]; omega
theorem isRo_row {r : Rel TT} {v : Value} {A : Option Addr} {n c : Nat} (hv : v = .slice A n c) {l : List Nat} (hl : l.length = n) : isRo (relAdd r 5 v (ints l)) 5 (Sl.val ⟨A, n, c⟩) (ints l) := by
 subst hv
 refine .inl (.inr ⟨rfl, 0, n, Nat.zero_le _, ?_, (sliceVal_all A n c _).symm, ?_⟩)
 . show n <= (ints l).length
   rw [ints_len]; omega
 . show ints l = ((ints l).take n).drop 0
   rw [List.drop_zero, List.take_of_length_le (by rw [ints_len]; omega)]
end Pc
/-
 Contracts of the program's WriteAll.
-/
set_option linter.unusedVariables false
set_option maxRecDepth 100000
open Go Go.Vg Go.Proofs
namespace Pc
structure X59 where
 x : XW
 pg : Nat
 pc : Nat
 pr : Nat
 pl : Nat
 pn : Nat
 pb : Nat
 pk : Nat
def X59.H (x : X59) (rel : Rel TT) (n : Nat) (b : SV TT) (ok : Bool) : List (Ent TT) :=
 [.F x.x.m, .R rel, .B x.pg 4 [.c (bv x.x.big)], .B x.pc 25 [.c (.ro 90 x.x.vc (canonL x.x.lens))], .B x.pr 26 [.c (.ro 97 x.x.vr (rgL 0 x.x.extra))], .B x.pl 22 [.c (.ro 36 x.x.vl x.x.l)],
   .B x.pn 2 [.c (iv .i64 n)], .B x.pb 23 [.c b], .B x.pk 4 [.c (bv ok)]]
def get59 (H : List (Ent TT)) : Option X59 := match H with
 | [.F m, .R rel, .B pg 4 [.c (.v (.bool big))], .B pc 25 [.c (.ro 90 vc k)], .B pr 26 [.c (.ro 97 vr r)], .B pl 22 [.c (.ro 36 vl l)], .B pn 2 _, .B pb 23 _, .B pk 4 _] =>
   some ⟨⟨m, rel, vl, l, vc, lensOf k, vr, extraOf r, big⟩, pg, pc, pr, pl, pn, pb, pk⟩
 | _ => none
structure x25OK (ss : List (List Nat)) (x : XW) : Prop where
 ok : xwOK ss x
 run : x.run ss ≠ none
def outW (big : Bool) (B : List Nat) : List Nat := packL big B ((B.length + 7) / 8)
def c59 (ss : List (List Nat)) : Ctr TT where
 X := X59
 find a H := get59 H
 phi x := x25OK ss x.x
 args x := [.p 2 x.pg (.lit 0), .p 3 x.pc (.lit 0), .p 4 x.pr (.lit 0), .p 5 x.pl (.lit 0), .p 6 x.pn (.lit 0), .p 7 x.pb (.lit 0), .p 8 x.pk (.lit 0)]
 H x := x.H x.x.rel 0 nilV false
 outs := [{ Y := fun _ => YW, psi := fun x y => psW ss x.x y, res := fun _ _ => .t [], H := fun x y => x.H y.rel y.B.length (.o 9 5 y.y (outW x.x.big y.B).length) true ++ [.O y.y 5 (ints (outW x.x.big y.B))] }]
structure Y59 where
 i : Nat
 off : Nat
 w : WV
 b : BV
 B : List Nat
structure ph59 (ss : List (List Nat)) (x : XW) (ws : WS) (y : Y59) : Prop where
 i : y.i <= x.l.length
 run : wrM x.lens x.extra x.big ((x.l.zip ss).take y.i) [] = some y.B
 len : y.B.length <= 320 * y.i
 bit : ∀ b ∈ y.B, b < 2
 ws : wsOK y.B (ws.upd y.off y.w y.b)
 tot : y.w.tot <= 47 * y.i
 num : y.w.num <= 56
 bn : y.b.n <= 600 * y.i
def ws59 (x : X59) (ob wb : Nat) : WS := ⟨x.x.m, x.x.rel, wb, ob, x.x.big, 0, ⟨0, 0, [], 0⟩, ⟨.slice none 0 0, [], 0, .slice none 0 0, 0⟩⟩
noncomputable def a59 (ss : List (List Nat)) (x : X59) : Ann TT := fun r S => match r with
 | 5009 => match S.ent 12 with
   | .B rb _ _ => some {
     X := GV
     phi := fun y => lutOK x.x.extra y.lut
     fr := fun y => []
     H := fun y => [(12, rngE x.x.extra rb y)]
     mu := fun y => 0 }
   | _ => none
 | 10 => match S.H with
   | [_, .R r1, _, _, _, _, _, _, _, .B ob _ _, .B wb _ _, .B eb _ [.c (.ro 43 _ _), _, _], _] => some {
     pre := [.ownC 9 0 5]
     X := Y59
     phi := fun y => ph59 ss x.x (ws59 x ob wb) y
     fr := fun y => [(34, iv .i64 y.i)]
     H := fun y => [(9, .B ob 123 (segO 13 y.b)), (10, .B wb 128 (segWr 9 ob y.off x.x.big y.w)), (13, y.b.O)]
     mu := fun y => x.x.l.length - y.i }
   | _ => some invNone
 | _ => none
noncomputable def b59 : Nat -> Option (PT TT)
 | 61 => some (loc [none, some 210] c61.pt)
 | 62 => some (loc [some 90] c62.pt)
 | 63 => some (loc [none, some 215] c63.pt)
 | 64 => some (loc [some 97] c64.pt)
 | 65 => some (exPT fun B => loc [none, none, none] (c65 B).pt)
 | 66 => some (exPT fun z : List Nat × List Nat => loc [none, none, none] (c66 z.1 z.2).pt)
 | 67 => some (exPT fun z : List Nat × List Nat × List Nat => loc [none, none, none, none] (c67 z.1 z.2.1 z.2.2).pt)
 | 68 => some (exPT fun B => loc [none, none] (c68 B).pt)
 | 69 => some (exPT fun B => loc [none, some 5] (c69 B).pt)
 | 71 => some (exPT fun B => loc [none] (c71 B).pt)
 | _ => none
def c25 (ss : List (List Nat)) : Ctr TT where
 X := XW
 find a H := getXW a H
 phi x := x25OK ss x
 args x := x.args
 H x := fr2 x.m x.rel
 outs := [{ Y := fun _ => YW, psi := fun x y => psW ss x y, res := fun x y => .t [.ro 5 y.y (ints (outW x.big y.B)), iv .i64 y.B.length, bv true], H := fun x y => fr2 x.m y.rel }]
noncomputable def b25 (ss : List (List Nat)) : Nat -> Option (PT TT)
 | 59 => some (loc [none, none, none, none, none, none, none] (c59 ss).pt)
 | _ => none
end Pc
/-
 Rows that Decoder.Init makes.
-/
set_option linter.unusedVariables false
set_option maxRecDepth 100000
open Go Go.Vg Go.Proofs
namespace Pc
def cond_c114 (G : Gl) (m : Fz) (rel : Rel TT) (n : Nat) : Prop :=
 Br (decide ((0 : Int) >= (↑n : Int))) (∃ x1 : (List (Tys.El TT 43)), isRo rel 43 (Value.slice none 0 0) x1 /\ (((0 : Nat) = x1.length) -> ((0 : Int) <= (0 : Int) /\ (0 : Int) <= (↑n : Int) /\ (↑n : Int) <= (0 : Int)) /\ ∃ x2 : Value, True /\ False /- "match: values of two makes" -/)) (inI64 ((↑n : Int) * (3 : Int)) /\ (2 : Int) ≠ (0 : Int) /\ ((0 : Int) <= (↑n : Int) /\ (↑n : Int) <= IntKind.wrap IntKind.i64 (Int.tdiv ((↑n : Int) * (3 : Int)) (2 : Int)) /\ room (Int.toNat (IntKind.wrap IntKind.i64 (Int.tdiv ((↑n : Int) * (3 : Int)) (2 : Int)))) 4) /\ ∀ x1 : Value, ∃ x2 : Value, True /\ (x1 = x2 /\ Int.toNat (↑n : Int) = n) /\ m = m /\ relLe rel rel /\ (x1 = x2 /\ List.replicate (Int.toNat (↑n : Int)) (0 : Int) = ints (List.replicate n 0)) /\ True)
noncomputable def law_c114 (G : Gl) (m : Fz) (rel : Rel TT) (n : Nat) : VCT := fnx (CT G) no noAnn Tryz.f114 (c114.args (m, rel, n)) (c114.H (m, rel, n)) (outK false 2 (c114.ret (m, rel, n))) (c114.pan (m, rel, n))
theorem eq_c114 (G : Gl) (m : Fz) (rel : Rel TT) (n : Nat) : cond_c114 G m rel n = (law_c114 G m rel n).den := by kernel_rfl
def cond_c142 (G : Gl) (m : Fz) (rel : Rel TT) (n : Nat) : Prop :=
 Br (decide ((0 : Int) >= (↑n : Int))) ((Rz /\ (↑n : Int) = (0 : Int)) /\ ∃ x1 : Value, True /\ False /- "match: values of two makes" -/) (inI64 ((↑n : Int) * (3 : Int)) /\ (2 : Int) ≠ (0 : Int) /\ ((0 : Int) <= (↑n : Int) /\ (↑n : Int) <= IntKind.wrap IntKind.i64 (Int.tdiv ((↑n : Int) * (3 : Int)) (2 : Int)) /\ room (Int.toNat (IntKind.wrap IntKind.i64 (Int.tdiv ((↑n : Int) * (3 : Int)) (2 : Int)))) 24) /\ ∀ x1 : Value, (Rz /\ Rz) /\ (x1 = x1 /\ Int.toNat (↑n : Int) = List.length (List.replicate (Int.toNat (↑n : Int)) (Sl.mk none 0 0))) /\ ∃ x2 : Value, True /\ (x1 = x2 /\ Int.toNat (↑n : Int) = n) /\ m = m /\ relLe rel rel /\ (x1 = x2 /\ List.take (min 0 (Int.toNat (↑n : Int))) [] ++ List.drop (min 0 (Int.toNat (↑n : Int))) (List.replicate (Int.toNat (↑n : Int)) (Sl.mk none 0 0)) = List.replicate n slN) /\ True)
noncomputable def law_c142 (G : Gl) (m : Fz) (rel : Rel TT) (n : Nat) : VCT := fnx (CT G) no noAnn Tryz.f142 (c142.args (m, rel, n)) (c142.H (m, rel, n)) (outK false 2 (c142.ret (m, rel, n))) (c142.pan (m, rel, n))
theorem eq_c142 (G : Gl) (m : Fz) (rel : Rel TT) (n : Nat) : cond_c142 G m rel n = (law_c142 G m rel n).den := by kernel_rfl
theorem ok_c114 (G : Gl) (m : Fz) (rel : Rel TT) (n : Nat) (h : 0 < n /\ n <= 1000000) : cond_c114 G m rel n := by
 unfold cond_c114
 have e1 : IntKind.i64.wrap (Int.tdiv ((n : Int) * 3) 2) = ((n * 3 / 2 : Nat) : Int) := by
   rw [Int.tdiv_eq_ediv_of_nonneg (by omega), wrI (by omega) (by omega)]; omega
 simp only [e1, br_d, inI64, room, Int.toNat_natCast, rel_self, true_and, and_true]
 refine ⟨fun h0 => by omega, fun _ => ⟨by omega, by decide, by omega, fun w => ⟨w, rfl, rfl, ?_⟩⟩⟩
 simp [ints]
theorem ok_c142 (G : Gl) (m : Fz) (rel : Rel TT) (n : Nat) (h : 0 < n /\ n <= 1000000) : cond_c142 G m rel n := by
 unfold cond_c142
 have e1 : IntKind.i64.wrap (Int.tdiv ((n : Int) * 3) 2) = ((n * 3 / 2 : Nat) : Int) := by
   rw [Int.tdiv_eq_ediv_of_nonneg (by omega), wrI (by omega) (by omega)]; omega
 simp only [e1, br_d, inI64, room, Int.toNat_natCast, rel_self, true_and, and_true]
 refine ⟨fun h0 => by omega, fun _ => ⟨by omega, by decide, by omega, fun w => ⟨by rw [List.length_replicate], w, rfl, rfl, ?_⟩⟩⟩
 simp [slN]
theorem s114 (G : Gl) : SpecOK (CC G) 114 c114.pt := specT G (fn := Tryz.f114) rfl c114 (fun _ => noAnn) fun ⟨m, rel, n⟩ h => Met.of (eq_c114 G m rel n) (ok_c114 G m rel n h)
theorem s142 (G : Gl) : SpecOK (CC G) 142 c142.pt := specT G (fn := Tryz.f142) rfl c142 (fun _ => noAnn) fun ⟨m, rel, n⟩ h => Met.of (eq_c142 G m rel n) (ok_c142 G m rel n h)
theorem b100_ok (G : Gl) : ∀ f pt, b100 f = some pt -> SpecOK (CC G) f pt := by
 intro f pt h
 unfold b100 at h
 split at h
 . cases h; exact loc_ok (s114 G) _
 . cases h; exact loc_ok (s142 G) _
 . cases h
end Pc
/-
 The writer's methods.
-/
set_option linter.unusedVariables false
set_option maxRecDepth 100000
open Go Go.Vg Go.Proofs
namespace Pc
def cond_c65 (G : Gl) (B : List Nat) (x : WS) (v n : Nat) : Prop :=
 ∀ x1 : Fz, (wsOK B (WS.mk x1 x.rel x.wb x.ob x.big x.off x.w x.b) /\ x.w.cnt <= 503) /\ (Rf x.wb /\ Ro) /\ x1 = x1 /\ Rl x.rel /\ Rf x.wb /\ Rf (x.off : Int) /\ (Rf x.ob /\ Ro) /\ Rf (x.w.bits : Int) /\ Rf (x.w.num : Int) /\ Rf x.big /\ (Rf 512 /\ Rf x.w.arr) /\ Rf (x.w.cnt : Int) /\ Rf x.ob /\ (Rf x.b.x /\ Rf 0 /\ Rf x.b.n /\ Rf x.b.v) /\ Rz /\ Rf x.b.last /\ (Rf x.b.x /\ Rf x.b.l) /\ ∀ x2 : WV, ((psh B (WS.mk x1 x.rel x.wb x.ob x.big x.off x.w x.b) x2) -> x1 = x1 /\ Rf x.wb /\ Rf x.wb /\ (0 : Int) <= (x2.num : Int) /\ Rf x.wb /\ Rf x.wb /\ Rf x.wb /\ ∃ x3 : WV, (wrt B (nb v n) x x3 /\ x3.num <= 7 + n) /\ x.m = x.m /\ Rl x.rel /\ Rf x.wb /\ Rf (x.off : Int) /\ (Rf x.ob /\ Ro) /\ bitI BinOp.or IntKind.u64 (x2.bits : Int) (shlI IntKind.u64 (↑v : Int) (x2.num : Int)) = (x3.bits : Int) /\ IntKind.wrap IntKind.u64 ((x2.num : Int) + (↑n : Int)) = (x3.num : Int) /\ Rf x.big /\ (Rf 512 /\ x2.arr = x3.arr) /\ (x2.cnt : Int) = (x3.cnt : Int) /\ Rf x.ob /\ (Rf x.b.x /\ Rf 0 /\ Rf x.b.n /\ Rf x.b.v) /\ Rz /\ Rf x.b.last /\ (Rf x.b.x /\ Rf x.b.l) /\ True)
noncomputable def law_c65 (G : Gl) (B : List Nat) (x : WS) (v n : Nat) : VCT := fnx (CC G) (IN G (b65 B) NA) noAnn Tryz.f65 ((c65 B).args (x, v, n)) ((c65 B).H (x, v, n)) (outK true 5 ((c65 B).ret (x, v, n))) ((c65 B).pan (x, v, n))
theorem eq_c65 (G : Gl) (B : List Nat) (x : WS) (v n : Nat) : cond_c65 G B x v n = (law_c65 G B x v n).den := by kernel_rfl
def cond_c68 (G : Gl) (B : List Nat) (x : WS) (v : Nat) : Prop :=
 Rf x.wb /\ Rf x.wb /\ Rf x.wb /\ (0 : Int) <= (x.w.num : Int) /\ Rf x.wb /\ Rf x.wb /\ Rf x.wb /\ ∃ x1 : WV, (wrt B (nb v (padN (List.length B))) x x1 /\ x1.cnt = x.w.cnt) /\ x.m = x.m /\ Rl x.rel /\ Rf x.wb /\ Rf (x.off : Int) /\ (Rf x.ob /\ Ro) /\ bitI BinOp.or IntKind.u64 (x.w.bits : Int) (shlI IntKind.u64 (↑v : Int) (x.w.num : Int)) = (x1.bits : Int) /\ IntKind.wrap IntKind.u64 ((x.w.num : Int) + bitI BinOp.and IntKind.u64 (IntKind.wrap IntKind.u64 ((0 : Int) - (x.w.num : Int))) (7 : Int)) = (x1.num : Int) /\ Rf x.big /\ (Rf 512 /\ x.w.arr = x1.arr) /\ (x.w.cnt : Int) = (x1.cnt : Int) /\ Rf x.ob /\ (Rf x.b.x /\ Rf 0 /\ Rf x.b.n /\ Rf x.b.v) /\ Rz /\ Rf x.b.last /\ (Rf x.b.x /\ Rf x.b.l) /\ True
noncomputable def law_c68 (G : Gl) (B : List Nat) (x : WS) (v : Nat) : VCT := fnx (CC G) (IN G no NA) noAnn Tryz.f68 ((c68 B).args (x, v)) ((c68 B).H (x, v)) (outK true 5 ((c68 B).ret (x, v))) ((c68 B).pan (x, v))
theorem eq_c68 (G : Gl) (B : List Nat) (x : WS) (v : Nat) : cond_c68 G B x v = (law_c68 G B x v).den := by kernel_rfl
def cond_c71 (G : Gl) (B : List Nat) (x : WS) : Prop :=
 Rf x.wb /\ Br (decide ((x.w.num : Int) < (8 : Int))) (Rf x.wb /\ Br ((x.w.cnt : Int) == (0 : Int)) (Rf x.wb /\ ∃ x1 : YF, (wsOK B (WS.upd x x1.off x1.w x1.b) /\ x1.w.cnt = 0 /\ x1.w.num <= 7 /\ x1.b.n <= x.b.n + 512) /\ (x.off : Int) = (x1.off : Int) /\ Rf Value.nilIface /\ x.m = x.m /\ Rl x.rel /\ Rf x.wb /\ (x.off : Int) = (x1.off : Int) /\ (Rf x.ob /\ Ro) /\ (x.w.bits : Int) = (x1.w.bits : Int) /\ (x.w.num : Int) = (x1.w.num : Int) /\ Rf x.big /\ (Rf 512 /\ x.w.arr = x1.w.arr) /\ (x.w.cnt : Int) = (x1.w.cnt : Int) /\ Rf x.ob /\ (x.b.x = x1.b.x /\ Rf 0 /\ x.b.n = x1.b.n /\ x.b.v = x1.b.v) /\ Rz /\ x.b.last = x1.b.last /\ (x.b.x = x1.b.x /\ x.b.l = x1.b.l) /\ True) (∀ x1 : Fz, (wsOK B (WS.mk x1 x.rel x.wb x.ob x.big x.off x.w x.b) /\ x.w.cnt <= 503) /\ (Rf x.wb /\ Ro) /\ x1 = x1 /\ Rl x.rel /\ Rf x.wb /\ Rf (x.off : Int) /\ (Rf x.ob /\ Ro) /\ Rf (x.w.bits : Int) /\ Rf (x.w.num : Int) /\ Rf x.big /\ (Rf 512 /\ Rf x.w.arr) /\ Rf (x.w.cnt : Int) /\ Rf x.ob /\ (Rf x.b.x /\ Rf 0 /\ Rf x.b.n /\ Rf x.b.v) /\ Rz /\ Rf x.b.last /\ (Rf x.b.x /\ Rf x.b.l) /\ ∀ x2 : WV, ((psh B (WS.mk x1 x.rel x.wb x.ob x.big x.off x.w x.b) x2) -> x1 = x1 /\ Rf x.wb /\ Rf x.wb /\ ((0 : Int) <= (0 : Int) /\ (0 : Int) <= (x2.cnt : Int) /\ (x2.cnt : Int) <= (512 : Int) /\ ((0 : Int) < (512 : Int) \/ (0 : Int) = (0 : Int))) /\ (Rf x.wb /\ x2.cnt - 0 <= 512 /\ 512 <= 9223372036854775807) /\ (Rf x.wb /\ 0 + (x2.cnt - 0) <= x2.arr.length) /\ ∀ x3 : Fz, (bvOK x.b /\ x.b.n + List.length (List.drop 0 (List.take ((0 : Nat) + (x2.cnt - 0)) x2.arr)) <= 1000000) /\ (Rf x.ob /\ Ro) /\ (Rf (SV.toV (T := TT) (SV.s 2 x.wb 5 5 0 (x2.cnt - 0) 512)) /\ Rf (List.drop 0 (List.take ((0 : Nat) + (x2.cnt - 0)) x2.arr))) /\ x3 = x3 /\ Rl x.rel /\ Rf x.ob /\ (Rf x.b.x /\ Rf 0 /\ Rf x.b.n /\ Rf x.b.v) /\ Rz /\ Rf x.b.last /\ (Rf x.b.x /\ Rf x.b.l) /\ ∀ x4 : BV, ((put5 x.b (List.drop 0 (List.take ((0 : Nat) + (x2.cnt - 0)) x2.arr)) x4) -> x3 = x3 /\ Rf x.wb /\ (inI64 ((x2.cnt : Int) - (↑(List.length (List.drop 0 (List.take ((0 : Nat) + (x2.cnt - 0)) x2.arr))) : Int))) /\ Rf x.wb /\ Rf x.wb /\ (inI64 ((x.off : Int) + (↑(List.length (List.drop 0 (List.take ((0 : Nat) + (x2.cnt - 0)) x2.arr))) : Int))) /\ Rf x.wb /\ Rf x.wb /\ ∃ x5 : YF, (wsOK B (WS.upd x x5.off x5.w x5.b) /\ x5.w.cnt = 0 /\ x5.w.num <= 7 /\ x5.b.n <= x.b.n + 512) /\ ((x.off : Int) + (↑(List.length (List.drop 0 (List.take ((0 : Nat) + (x2.cnt - 0)) x2.arr))) : Int) = (x5.off : Int)) /\ Rf Value.nilIface /\ x.m = x.m /\ Rl x.rel /\ Rf x.wb /\ ((x.off : Int) + (↑(List.length (List.drop 0 (List.take ((0 : Nat) + (x2.cnt - 0)) x2.arr))) : Int) = (x5.off : Int)) /\ (Rf x.ob /\ Ro) /\ (x2.bits : Int) = (x5.w.bits : Int) /\ (x2.num : Int) = (x5.w.num : Int) /\ Rf x.big /\ (Rf 512 /\ x2.arr = x5.w.arr) /\ ((x2.cnt : Int) - (↑(List.length (List.drop 0 (List.take ((0 : Nat) + (x2.cnt - 0)) x2.arr))) : Int) = (x5.w.cnt : Int)) /\ Rf x.ob /\ (x4.x = x5.b.x /\ Rf 0 /\ x4.n = x5.b.n /\ x4.v = x5.b.v) /\ Rz /\ x4.last = x5.b.last /\ (x4.x = x5.b.x /\ x4.l = x5.b.l) /\ True)))) (∀ x1 : Fz, (wsOK B (WS.mk x1 x.rel x.wb x.ob x.big x.off x.w x.b) /\ x.w.cnt <= 503) /\ (Rf x.wb /\ Ro) /\
 x1 = x1 /\ Rl x.rel /\ Rf x.wb /\ Rf (x.off : Int) /\ (Rf x.ob /\ Ro) /\ Rf (x.w.bits : Int) /\ Rf (x.w.num : Int) /\ Rf x.big /\ (Rf 512 /\ Rf x.w.arr) /\ Rf (x.w.cnt : Int) /\ Rf x.ob /\ (Rf x.b.x /\ Rf 0 /\ Rf x.b.n /\ Rf x.b.v) /\ Rz /\ Rf x.b.last /\ (Rf x.b.x /\ Rf x.b.l) /\ ∀ x2 : WV, ((psh B (WS.mk x1 x.rel x.wb x.ob x.big x.off x.w x.b) x2) -> x1 = x1 /\ Rf x.wb /\ Rf x.wb /\ ((0 : Int) <= (0 : Int) /\ (0 : Int) <= (x2.cnt : Int) /\ (x2.cnt : Int) <= (512 : Int) /\ ((0 : Int) < (512 : Int) \/ (0 : Int) = (0 : Int))) /\ (Rf x.wb /\ x2.cnt - 0 <= 512 /\ 512 <= 9223372036854775807) /\ (Rf x.wb /\ 0 + (x2.cnt - 0) <= x2.arr.length) /\ ∀ x3 : Fz, (bvOK x.b /\ x.b.n + List.length (List.drop 0 (List.take ((0 : Nat) + (x2.cnt - 0)) x2.arr)) <= 1000000) /\ (Rf x.ob /\ Ro) /\ (Rf (SV.toV (T := TT) (SV.s 2 x.wb 5 5 0 (x2.cnt - 0) 512)) /\ Rf (List.drop 0 (List.take ((0 : Nat) + (x2.cnt - 0)) x2.arr))) /\ x3 = x3 /\ Rl x.rel /\ Rf x.ob /\ (Rf x.b.x /\ Rf 0 /\ Rf x.b.n /\ Rf x.b.v) /\ Rz /\ Rf x.b.last /\ (Rf x.b.x /\ Rf x.b.l) /\ ∀ x4 : BV, ((put5 x.b (List.drop 0 (List.take ((0 : Nat) + (x2.cnt - 0)) x2.arr)) x4) -> x3 = x3 /\ Rf x.wb /\ (inI64 ((x2.cnt : Int) - (↑(List.length (List.drop 0 (List.take ((0 : Nat) + (x2.cnt - 0)) x2.arr))) : Int))) /\ Rf x.wb /\ Rf x.wb /\ (inI64 ((x.off : Int) + (↑(List.length (List.drop 0 (List.take ((0 : Nat) + (x2.cnt - 0)) x2.arr))) : Int))) /\ Rf x.wb /\ Rf x.wb /\ ∃ x5 : YF, (wsOK B (WS.upd x x5.off x5.w x5.b) /\ x5.w.cnt = 0 /\ x5.w.num <= 7 /\ x5.b.n <= x.b.n + 512) /\ ((x.off : Int) + (↑(List.length (List.drop 0 (List.take ((0 : Nat) + (x2.cnt - 0)) x2.arr))) : Int) = (x5.off : Int)) /\ Rf Value.nilIface /\ x.m = x.m /\ Rl x.rel /\ Rf x.wb /\ ((x.off : Int) + (↑(List.length (List.drop 0 (List.take ((0 : Nat) + (x2.cnt - 0)) x2.arr))) : Int) = (x5.off : Int)) /\ (Rf x.ob /\ Ro) /\ (x2.bits : Int) = (x5.w.bits : Int) /\ (x2.num : Int) = (x5.w.num : Int) /\ Rf x.big /\ (Rf 512 /\ x2.arr = x5.w.arr) /\ ((x2.cnt : Int) - (↑(List.length (List.drop 0 (List.take ((0 : Nat) + (x2.cnt - 0)) x2.arr))) : Int) = (x5.w.cnt : Int)) /\ Rf x.ob /\ (x4.x = x5.b.x /\ Rf 0 /\ x4.n = x5.b.n /\ x4.v = x5.b.v) /\ Rz /\ x4.last = x5.b.last /\ (x4.x = x5.b.x /\ x4.l = x5.b.l) /\ True)))
noncomputable def law_c71 (G : Gl) (B : List Nat) (x : WS) : VCT := fnx (CC G) (IN G (b71 B) NA) noAnn Tryz.f71 ((c71 B).args x) ((c71 B).H x) (outK true 5 ((c71 B).ret x)) ((c71 B).pan x)
theorem eq_c71 (G : Gl) (B : List Nat) (x : WS) : cond_c71 G B x = (law_c71 G B x).den := by kernel_rfl
def cond_c69 (G : Gl) (B : List Nat) (x : WS × Value × List Nat) : Prop :=
 Rf x.1.wb /\ Br (decide ((x.1.w.num : Int) > (0 : Int))) (Rf x.1.wb /\ (8 : Int) ≠ (0 : Int) /\ Br (Int.tmod (x.1.w.num : Int) (8 : Int) != (0 : Int)) (∃ x1 : YF, (wsOK (B ++ bitsOf x.1.big x.2.2) (WS.upd x.1 x1.off x1.w x1.b) /\ x1.w.cnt = 0 /\ x1.w.num = 0 /\ x1.b.n <= x.1.b.n + 512 + x.2.2.length) /\ (0 : Int) = (x.2.2.length : Int) /\ False /- "match: values of two makes" -/) (∀ x1 : Fz, (wsOK B (WS.mk x1 x.1.rel x.1.wb x.1.ob x.1.big x.1.off x.1.w x.1.b) /\ x.1.w.cnt <= 503 /\ x.1.b.n <= 900000) /\ (Rf x.1.wb /\ Ro) /\ x1 = x1 /\ Rl x.1.rel /\ Rf x.1.wb /\ Rf (x.1.off : Int) /\ (Rf x.1.ob /\ Ro) /\ Rf (x.1.w.bits : Int) /\ Rf (x.1.w.num : Int) /\ Rf x.1.big /\ (Rf 512 /\ Rf x.1.w.arr) /\ Rf (x.1.w.cnt : Int) /\ Rf x.1.ob /\ (Rf x.1.b.x /\ Rf 0 /\ Rf x.1.b.n /\ Rf x.1.b.v) /\ Rz /\ Rf x.1.b.last /\ (Rf x.1.b.x /\ Rf x.1.b.l) /\ ∀ x2 : YF, ((wsOK B (WS.upd (WS.mk x1 x.1.rel x.1.wb x.1.ob x.1.big x.1.off x.1.w x.1.b) x2.off x2.w x2.b) /\ x2.w.cnt = 0 /\ x2.w.num <= 7 /\ x2.b.n <= x.1.b.n + 512) -> x1 = x1 /\ Rf x.1.wb /\ ∀ x3 : Fz, (bvOK x2.b /\ x2.b.n + List.length (ints x.2.2) <= 1000000) /\ (Rf x.1.ob /\ Ro) /\ (Rf x.2.1 /\ Rf (ints x.2.2)) /\ x3 = x3 /\ Rl x.1.rel /\ Rf x.1.ob /\ (Rf x2.b.x /\ Rf 0 /\ Rf x2.b.n /\ Rf x2.b.v) /\ Rz /\ Rf x2.b.last /\ (Rf x2.b.x /\ Rf x2.b.l) /\ ∀ x4 : BV, ((put5 x2.b (ints x.2.2) x4) -> x3 = x3 /\ Rf x.1.wb /\ (inI64 ((x2.off : Int) + (↑(List.length (ints x.2.2)) : Int))) /\ Rf x.1.wb /\ ∃ x5 : YF, (wsOK (B ++ bitsOf x.1.big x.2.2) (WS.upd x.1 x5.off x5.w x5.b) /\ x5.w.cnt = 0 /\ x5.w.num = 0 /\ x5.b.n <= x.1.b.n + 512 + x.2.2.length) /\ ((↑(List.length (ints x.2.2)) : Int) = (x.2.2.length : Int)) /\ Rf Value.nilIface /\ Rf x.1.m /\ Rl x.1.rel /\ Rf x.1.wb /\ ((x2.off : Int) + (↑(List.length (ints x.2.2)) : Int) = (x5.off : Int)) /\ (Rf x.1.ob /\ Ro) /\ (x2.w.bits : Int) = (x5.w.bits : Int) /\ (x2.w.num : Int) = (x5.w.num : Int) /\ Rf x.1.big /\ (Rf 512 /\ x2.w.arr = x5.w.arr) /\ (x2.w.cnt : Int) = (x5.w.cnt : Int) /\ Rf x.1.ob /\ (x4.x = x5.b.x /\ Rf 0 /\ x4.n = x5.b.n /\ x4.v = x5.b.v) /\ Rz /\ x4.last = x5.b.last /\ (x4.x = x5.b.x /\ x4.l = x5.b.l) /\ True)))) (Rf x.1.wb /\ Br (decide ((x.1.w.cnt : Int) > (0 : Int))) (Rf x.1.wb /\ (8 : Int) ≠ (0 : Int) /\ Br (Int.tmod (x.1.w.num : Int) (8 : Int) != (0 : Int)) (∃ x1 : YF, (wsOK (B ++ bitsOf x.1.big x.2.2) (WS.upd x.1 x1.off x1.w x1.b) /\ x1.w.cnt = 0 /\ x1.w.num = 0 /\ x1.b.n <= x.1.b.n + 512 + x.2.2.length) /\ (0 : Int) = (x.2.2.length : Int) /\ False /- "match: values of two makes" -/) (∀ x1 : Fz, (wsOK B (WS.mk x1 x.1.rel x.1.wb x.1.ob x.1.big x.1.off x.1.w x.1.b) /\ x.1.w.cnt <= 503 /\ x.1.b.n <= 900000) /\ (Rf x.1.wb /\ Ro) /\ x1 = x1 /\ Rl x.1.rel /\ Rf x.1.wb /\ Rf (x.1.off : Int) /\ (Rf x.1.ob /\ Ro) /\ Rf (x.1.w.bits : Int) /\ Rf (x.1.w.num : Int) /\ Rf x.1.big /\ (Rf 512 /\ Rf x.1.w.arr) /\ Rf (x.1.w.cnt : Int) /\ Rf x.1.ob /\ (Rf x.1.b.x /\ Rf 0 /\ Rf x.1.b.n /\ Rf x.1.b.v) /\ Rz /\ Rf x.1.b.last /\ (Rf x.1.b.x /\ Rf x.1.b.l) /\
 ∀ x2 : YF, ((wsOK B (WS.upd (WS.mk x1 x.1.rel x.1.wb x.1.ob x.1.big x.1.off x.1.w x.1.b) x2.off x2.w x2.b) /\ x2.w.cnt = 0 /\ x2.w.num <= 7 /\ x2.b.n <= x.1.b.n + 512) -> x1 = x1 /\ Rf x.1.wb /\ ∀ x3 : Fz, (bvOK x2.b /\ x2.b.n + List.length (ints x.2.2) <= 1000000) /\ (Rf x.1.ob /\ Ro) /\ (Rf x.2.1 /\ Rf (ints x.2.2)) /\ x3 = x3 /\ Rl x.1.rel /\ Rf x.1.ob /\ (Rf x2.b.x /\ Rf 0 /\ Rf x2.b.n /\ Rf x2.b.v) /\ Rz /\ Rf x2.b.last /\ (Rf x2.b.x /\ Rf x2.b.l) /\ ∀ x4 : BV, ((put5 x2.b (ints x.2.2) x4) -> x3 = x3 /\ Rf x.1.wb /\ (inI64 ((x2.off : Int) + (↑(List.length (ints x.2.2)) : Int))) /\ Rf x.1.wb /\ ∃ x5 : YF, (wsOK (B ++ bitsOf x.1.big x.2.2) (WS.upd x.1 x5.off x5.w x5.b) /\ x5.w.cnt = 0 /\ x5.w.num = 0 /\ x5.b.n <= x.1.b.n + 512 + x.2.2.length) /\ ((↑(List.length (ints x.2.2)) : Int) = (x.2.2.length : Int)) /\ Rf Value.nilIface /\ Rf x.1.m /\ Rl x.1.rel /\ Rf x.1.wb /\ ((x2.off : Int) + (↑(List.length (ints x.2.2)) : Int) = (x5.off : Int)) /\ (Rf x.1.ob /\ Ro) /\ (x2.w.bits : Int) = (x5.w.bits : Int) /\ (x2.w.num : Int) = (x5.w.num : Int) /\ Rf x.1.big /\ (Rf 512 /\ x2.w.arr = x5.w.arr) /\ (x2.w.cnt : Int) = (x5.w.cnt : Int) /\ Rf x.1.ob /\ (x4.x = x5.b.x /\ Rf 0 /\ x4.n = x5.b.n /\ x4.v = x5.b.v) /\ Rz /\ x4.last = x5.b.last /\ (x4.x = x5.b.x /\ x4.l = x5.b.l) /\ True)))) (Rf x.1.wb /\ ∀ x1 : Fz, (bvOK x.1.b /\ x.1.b.n + List.length (ints x.2.2) <= 1000000) /\ (Rf x.1.ob /\ Ro) /\ (Rf x.2.1 /\ Rf (ints x.2.2)) /\ x1 = x1 /\ Rl x.1.rel /\ Rf x.1.ob /\ (Rf x.1.b.x /\ Rf 0 /\ Rf x.1.b.n /\ Rf x.1.b.v) /\ Rz /\ Rf x.1.b.last /\ (Rf x.1.b.x /\ Rf x.1.b.l) /\ ∀ x2 : BV, ((put5 x.1.b (ints x.2.2) x2) -> x1 = x1 /\ Rf x.1.wb /\ (inI64 ((x.1.off : Int) + (↑(List.length (ints x.2.2)) : Int))) /\ Rf x.1.wb /\ ∃ x3 : YF, (wsOK (B ++ bitsOf x.1.big x.2.2) (WS.upd x.1 x3.off x3.w x3.b) /\ x3.w.cnt = 0 /\ x3.w.num = 0 /\ x3.b.n <= x.1.b.n + 512 + x.2.2.length) /\ ((↑(List.length (ints x.2.2)) : Int) = (x.2.2.length : Int)) /\ Rf Value.nilIface /\ Rf x.1.m /\ Rl x.1.rel /\ Rf x.1.wb /\ ((x.1.off : Int) + (↑(List.length (ints x.2.2)) : Int) = (x3.off : Int)) /\ (Rf x.1.ob /\ Ro) /\ (x.1.w.bits : Int) = (x3.w.bits : Int) /\ (x.1.w.num : Int) = (x3.w.num : Int) /\ Rf x.1.big /\ (Rf 512 /\ x.1.w.arr = x3.w.arr) /\ (x.1.w.cnt : Int) = (x3.w.cnt : Int) /\ Rf x.1.ob /\ (x2.x = x3.b.x /\ Rf 0 /\ x2.n = x3.b.n /\ x2.v = x3.b.v) /\ Rz /\ x2.last = x3.b.last /\ (x2.x = x3.b.x /\ x2.l = x3.b.l) /\ True)))
noncomputable def law_c69 (G : Gl) (B : List Nat) (x : WS × Value × List Nat) : VCT := fnx (CC G) (IN G (b69 B) NA) noAnn Tryz.f69 ((c69 B).args x) ((c69 B).H x) (outK true 5 ((c69 B).ret x)) ((c69 B).pan x)
theorem eq_c69 (G : Gl) (B : List Nat) (x : WS × Value × List Nat) : cond_c69 G B x = (law_c69 G B x).den := by kernel_rfl
theorem ws_len {B : List Nat} {x : WS} (h : wsOK B x) : B.length = 8 * (x.b.n + x.w.cnt) + x.w.num := by
 obtain ⟨bs, b1, b2, b3⟩ := h.rep
 have h1 := congrArg List.length b2
 have h2 := h.bv.n
 have h3 := h.cnt
 rw [List.length_append, List.length_take, List.length_take, ints_len, h.arr] at h1
 have h4 := congrArg List.length b3
 rw [List.length_append, bitsOf_len, nb_len] at h4
 omega
theorem ws_any {B : List Nat} {x : WS} (h : wsOK B x) (m : Fz) (rel : Rel TT) : wsOK B ⟨m, rel, x.wb, x.ob, x.big, x.off, x.w, x.b⟩ := ⟨h.arr, h.cnt, h.num, h.bits, h.bv, h.off, h.rep⟩
theorem ws_add {B : List Nat} {x : WS} {w : WV} (h : wsOK B (x.put w)) {v n : Nat} (hv : v < 2 ^ n) (hn : w.num + n <= 64) : wsOK (B ++ nb v n) (x.put ⟨w.bits ||| (v * 2 ^ w.num % 2 ^ 64), w.num + n, w.arr, w.cnt⟩) := by
 have hb : w.bits < 2 ^ w.num := h.bits
 obtain ⟨bs, b1, b2, b3⟩ := h.rep
 refine ⟨h.arr, h.cnt, hn, ?_, h.bv, h.off, ⟨bs, b1, b2, ?_⟩⟩
 . refine Nat.or_lt_two_pow (Nat.lt_of_lt_of_le hb (Nat.pow_le_pow_right (by decide) (Nat.le_add_right _ _))) (Nat.lt_of_le_of_lt (Nat.mod_le _ _) ?_)
   show v * 2 ^ w.num < 2 ^ (w.num + n)
   rw [Nat.pow_add, Nat.mul_comm]
   exact Nat.mul_lt_mul_of_pos_left hv (Nat.pow_pos (by decide))
 . show B ++ nb v n = bitsOf x.big bs ++ nb (w.bits ||| (v * 2 ^ w.num % 2 ^ 64)) (w.num + n)
   rw [nb_or hb hn, <- List.append_assoc]
   congr 1
theorem put_bits {bits v num : Nat} (hb : bits < 2 ^ num) (hn : num <= 64) : bitI BinOp.or IntKind.u64 (bits : Int) (shlI IntKind.u64 (v : Int) (num : Int)) = ((bits ||| (v * 2 ^ num % 2 ^ 64) : Nat) : Int) := by
 rw [shlN rfl, show min num IntKind.u64.bits = num by simp only [IntKind.bits]; omega, orN rfl]
 . rfl
 . exact Nat.lt_of_lt_of_le hb (Nat.pow_le_pow_right (by decide) hn)
 . exact Nat.mod_lt _ (by decide)
theorem neg_and7u {n : Nat} (hn : n <= 64) : bitI BinOp.and IntKind.u64 (IntKind.u64.wrap (0 - (n : Int))) 7 = ((padN n : Nat) : Int) := by
 have e : IntKind.u64.wrap (0 - (n : Int)) = (((18446744073709551616 - n) % 18446744073709551616 : Nat) : Int) := by rw [wr64]; omega
 rw [e, show (7 : Int) = ((7 : Nat) : Int) from rfl, andN (k := IntKind.u64) (a := (18446744073709551616 - n) % 18446744073709551616) rfl (by simp only [IntKind.bits]; omega) (by decide), show (7 : Nat) = 2 ^ 3 - 1 from rfl, Nat.and_two_pow_sub_one_eq_mod]
 unfold padN
 omega
theorem ok_c65 (G : Gl) (B : List Nat) (x : WS) (v n : Nat) (h : (c65 B).phi (x, v, n)) : cond_c65 G B x v n := by
 unfold cond_c65
 obtain ⟨h, h1, h2, h3⟩ := h
 dsimp only at h h1 h2 h3
 have ht : x.w.cnt <= 503 := by unfold WV.tot at h1; omega
 simp only [rel_self, true_and, and_true, Int.toNat_natCast]
 refine fun m => ⟨⟨ws_any h m _, ht⟩, fun w hw => ?_⟩
 have w1 := hw.num
 have w2 : wsOK B (x.put w) := ws_any (x := WS.put ⟨m, x.rel, x.wb, x.ob, x.big, x.off, x.w, x.b⟩ w) hw.ok x.m _
 have w3 : w.bits < 2 ^ w.num := w2.bits
 have w4 := hw.tot
 refine ⟨by omega, ⟨w.bits ||| (v * 2 ^ w.num % 2 ^ 64), w.num + n, w.arr, w.cnt⟩, ⟨⟨ws_add w2 h2 (by omega), ?_⟩, by dsimp only; omega⟩, put_bits w3 (by omega), ?_, rfl, rfl⟩
 . rw [nb_len]
   unfold WV.tot at *
   dsimp only at *
   omega
 . rw [wr64]; dsimp only; omega
theorem padN_mod {a b : Nat} (h : a % 8 = b % 8) : padN a = padN b := by unfold padN; rw [h]
theorem ok_c68 (G : Gl) (B : List Nat) (x : WS) (v : Nat) (h : (c68 B).phi (x, v)) : cond_c68 G B x v := by
 unfold cond_c68
 obtain ⟨h, h1, h2⟩ := h
 dsimp only at h h1 h2
 have hl := ws_len h
 have hp : padN B.length = padN x.w.num := padN_mod (by omega)
 have hp8 : padN x.w.num < 8 := by unfold padN; omega
 simp only [rel_self, true_and, and_true, neg_and7u h.num]
 rw [hp] at h2 ⊢
 refine ⟨by omega, ⟨x.w.bits ||| (v * 2 ^ x.w.num % 2 ^ 64), x.w.num + padN x.w.num, x.w.arr, x.w.cnt⟩, ⟨⟨ws_add (x := x) (w := x.w) (ws_any h _ _) h2 (by omega), ?_⟩, rfl⟩, put_bits h.bits h.num, ?_, rfl, rfl⟩
 . rw [nb_len]
   unfold WV.tot
   dsimp only; omega
 . rw [wr64]; dsimp only; omega
theorem fl_mk5 {B : List Nat} {x : WS} {w : WV} (h : wsOK B (x.put w)) {c : BV} (hc : put5 x.b (w.arr.take w.cnt) c) : wsOK B (x.upd (x.off + w.cnt) ⟨w.bits, w.num, w.arr, 0⟩ c) /\ c.n = x.b.n + w.cnt := by
 obtain ⟨bs, b1, b2, b3⟩ := h.rep
 have hl : (w.arr.take w.cnt).length = w.cnt := by
   have h1 : w.arr.length = 512 := h.arr
   have h2 : w.cnt <= 512 := h.cnt
   rw [List.length_take]; omega
 have hn := hc.n
 have ho : x.off = x.b.n := h.off
 rw [hl] at hn
 refine ⟨⟨h.arr, Nat.zero_le _, h.num, h.bits, hc.ok, ?_, ⟨bs, b1, ?_, b3⟩⟩, hn⟩
 . show x.off + w.cnt = c.n
   omega
 . show c.l.take c.n ++ w.arr.take 0 = ints bs
   rw [List.take_zero, List.append_nil, hc.all]
   exact b2
theorem ok_c71 (G : Gl) (B : List Nat) (x : WS) (h : (c71 B).phi x) : cond_c71 G B x := by
 unfold cond_c71
 obtain ⟨h, h1, h2⟩ := h
 have hn := h.num
 have hoff := h.off
 simp only [br_d, br_i, rel_self, true_and, and_true, Nat.sub_zero, Nat.zero_add, List.drop_zero, Int.toNat_natCast]
 refine ⟨fun a1 => ⟨fun a2 => ?_, fun a2 m => ⟨⟨ws_any h m _, h1⟩, fun w hw => ?_⟩⟩, fun a1 m => ⟨⟨ws_any h m _, h1⟩, fun w hw => ?_⟩⟩
 . exact ⟨⟨x.off, x.w, x.b⟩, ⟨ws_any h _ _, by dsimp only; omega, by dsimp only; omega, by dsimp only; omega⟩, rfl, rfl, rfl, rfl, rfl, rfl, ⟨rfl, rfl, rfl⟩, rfl, rfl, rfl⟩
 all_goals
   have w0 : w.arr.length = 512 := hw.ok.arr
   have w1 := hw.num
   have w2 : wsOK B (x.put w) := ws_any (x := WS.put ⟨m, x.rel, x.wb, x.ob, x.big, x.off, x.w, x.b⟩ w) hw.ok x.m _
   have w5 := hw.cnt
   dsimp only at w5
   have hl : (w.arr.take w.cnt).length = w.cnt := by rw [List.length_take]; omega
   simp only [hl, inI64]
   refine ⟨by omega, by omega, by omega, fun _ => ⟨⟨h.bv, by omega⟩, fun c hc => ?_⟩⟩
   obtain ⟨k1, k2⟩ := fl_mk5 w2 hc
   exact ⟨by omega, by omega, ⟨x.off + w.cnt, ⟨w.bits, w.num, w.arr, 0⟩, c⟩, ⟨k1, rfl, w1, by dsimp only; omega⟩, by dsimp only; omega, by dsimp only; omega, rfl, rfl, rfl, by dsimp only; omega, ⟨rfl, rfl, rfl⟩, rfl, rfl, rfl⟩
theorem wr_mk5 {B : List Nat} {x : WS} (h : wsOK B x) (h0 : x.w.cnt = 0) (h1 : x.w.num = 0) {s : List Nat} (hs : ∀ b ∈ s, b < 256) {c : BV} (hc : put5 x.b (ints s) c) : wsOK (B ++ bitsOf x.big s) (x.upd (x.off + s.length) x.w c) /\ c.n = x.b.n + s.length := by
 obtain ⟨bs, b1, b2, b3⟩ := h.rep
 have hn := hc.n
 have ho := h.off
 rw [ints_len] at hn
 rw [h0, List.take_zero, List.append_nil] at b2
 rw [h1, nb_zero, List.append_nil] at b3
 refine ⟨⟨h.arr, h.cnt, h.num, h.bits, hc.ok, ?_, ⟨bs ++ s, ?_, ?_, ?_⟩⟩, hn⟩
 . show x.off + s.length = c.n
   omega
 . intro b hb
   rcases List.mem_append.1 hb with hb | hb
   . exact b1 b hb
   . exact hs b hb
 . show c.l.take c.n ++ x.w.arr.take x.w.cnt = _
   rw [h0, List.take_zero, List.append_nil, hc.all, b2]
   simp [ints]
 . show B ++ bitsOf x.big s = bitsOf x.big (bs ++ s) ++ nb x.w.bits x.w.num
   rw [h1, nb_zero, List.append_nil, bitsOf_app, b3]
theorem ok_c69 (G : Gl) (B : List Nat) (x : WS × Value × List Nat) (h : (c69 B).phi x) : cond_c69 G B x := by
 unfold cond_c69
 obtain ⟨x, y, s⟩ := x
 obtain ⟨h, h1, h2, h3, h4, h5⟩ := h
 dsimp only at h h1 h2 h3 h4 h5 ⊢
 have hn := h.num
 have hoff := h.off
 have hl := ws_len h
 have t1 : Int.tmod (x.w.num : Int) 8 = 0 := by rw [Int.tmod_eq_emod_of_nonneg (by omega)]; omega
 simp only [br_d, rel_self, true_and, and_true, t1, ints_len, inI64, Int.toNat_natCast]
 have flush : ∀ (m : Fz) (z : YF), wsOK B (WS.upd ⟨m, x.rel, x.wb, x.ob, x.big, x.off, x.w, x.b⟩ z.off z.w z.b) /\ z.w.cnt = 0 /\ z.w.num <= 7 /\ z.b.n <= x.b.n + 512 -> ∀ c, put5 z.b (ints s) c ->
     ∃ x5 : YF, (wsOK (B ++ bitsOf x.big s) (x.upd x5.off x5.w x5.b) /\ x5.w.cnt = 0 /\ x5.w.num = 0 /\ x5.b.n <= x.b.n + 512 + s.length) /\ (z.off : Int) + (s.length : Int) = (x5.off : Int) /\ (z.w.bits : Int) = (x5.w.bits : Int) /\ (z.w.num : Int) = (x5.w.num : Int) /\ z.w.arr = x5.w.arr /\ (z.w.cnt : Int) = (x5.w.cnt : Int) /\ (c.x = x5.b.x /\ c.n = x5.b.n /\ c.v = x5.b.v) /\ c.last = x5.b.last /\ c.x = x5.b.x /\ c.l = x5.b.l := by
   intro m z hz c hc
   have hzl := ws_len hz.1
   have z1 : B.length = 8 * (z.b.n + z.w.cnt) + z.w.num := hzl
   have z2 : z.w.num = 0 := by omega
   obtain ⟨k1, k2⟩ := wr_mk5 (x := WS.upd ⟨m, x.rel, x.wb, x.ob, x.big, x.off, x.w, x.b⟩ z.off z.w z.b) hz.1 hz.2.1 z2 h5 hc
   have k2 : c.n = z.b.n + s.length := k2
   exact ⟨⟨z.off + s.length, z.w, c⟩, ⟨ws_any k1 x.m x.rel, hz.2.1, z2, by dsimp only; omega⟩, by dsimp only; omega, rfl, rfl, rfl, rfl, ⟨rfl, rfl, rfl⟩, rfl, rfl, rfl⟩
 refine ⟨fun _ => ⟨by decide, br_mk (fun hb => by simp at hb) fun _ m => ⟨⟨ws_any h m _, h1, by omega⟩, fun z hz _ => ⟨⟨hz.1.bv, by omega⟩, fun c hc => ⟨?_, flush m z hz c hc⟩⟩⟩⟩, fun _ => ⟨fun _ => ⟨by decide, br_mk (fun hb => by simp at hb) fun _ m => ⟨⟨ws_any h m _, h1, by omega⟩, fun z hz _ => ⟨⟨hz.1.bv, by omega⟩, fun c hc => ⟨?_, flush m z hz c hc⟩⟩⟩⟩, fun _ _ => ⟨⟨h.bv, by omega⟩, fun c hc => ?_⟩⟩⟩
 . have : z.off = z.b.n := hz.1.off
   omega
 . have : z.off = z.b.n := hz.1.off
   omega
 . obtain ⟨k1, k2⟩ := wr_mk5 h (by omega) (by omega) h5 hc
   exact ⟨by omega, ⟨x.off + s.length, x.w, c⟩, ⟨k1, by dsimp only; omega, by dsimp only; omega, by dsimp only; omega⟩, by dsimp only; omega, rfl, rfl, rfl, rfl, ⟨rfl, rfl, rfl⟩, rfl, rfl, rfl⟩
theorem b65_ok (G : Gl) (B : List Nat) : ∀ f pt, b65 B f = some pt -> SpecOK (CC G) f pt := by
 intro f pt h
 unfold b65 at h
 split at h
 . cases h; exact loc_ok (s118 G B) _
 . cases h
theorem s65 (G : Gl) (B : List Nat) : SpecOK (CC G) 65 (c65 B).pt := spec G (b65_ok G B) (fn := Tryz.f65) rfl NA (c65 B) (fun _ => noAnn) fun ⟨x, v, n⟩ h => Met.of (eq_c65 G B x v n) (ok_c65 G B x v n h)
theorem s68 (G : Gl) (B : List Nat) : SpecOK (CC G) 68 (c68 B).pt := spec G (no_ok G) (fn := Tryz.f68) rfl NA (c68 B) (fun _ => noAnn) fun ⟨x, v⟩ h => Met.of (eq_c68 G B x v) (ok_c68 G B x v h)
theorem b71_ok (G : Gl) (B : List Nat) : ∀ f pt, b71 B f = some pt -> SpecOK (CC G) f pt := by
 intro f pt h
 unfold b71 at h
 split at h
 . cases h; exact loc_ok (s118 G B) _
 . cases h; exact loc_ok (s205 G) _
 . cases h
theorem s71 (G : Gl) (B : List Nat) : SpecOK (CC G) 71 (c71 B).pt := spec G (b71_ok G B) (fn := Tryz.f71) rfl NA (c71 B) (fun _ => noAnn) fun x h => Met.of (eq_c71 G B x) (ok_c71 G B x h)
theorem b69_ok (G : Gl) (B : List Nat) : ∀ f pt, b69 B f = some pt -> SpecOK (CC G) f pt := by
 intro f pt h
 unfold b69 at h
 split at h
 . cases h; exact loc_ok (s71 G B) _
 . cases h; exact loc_ok (s205 G) _
 . cases h
theorem s69 (G : Gl) (B : List Nat) : SpecOK (CC G) 69 (c69 B).pt := spec G (b69_ok G B) (fn := Tryz.f69) rfl NA (c69 B) (fun _ => noAnn) fun x h => Met.of (eq_c69 G B x) (ok_c69 G B x h)
end Pc
/-
 The sources do what their contracts say.
-/
set_option linter.unusedVariables false
set_option maxRecDepth 100000
open Go Go.Vg Go.Proofs
namespace Pc
def cond_c217 (G : Gl) (x : RB) : Prop :=
 Rf x.bb /\ Rf x.sb /\ Rf x.sb /\ inI64 ((x.i : Int) + (0 : Int)) /\ Rf x.sb /\ Rf x.bb /\ inI64 ((x.i : Int) + (0 : Int) - (x.pos : Int)) /\ Br (decide ((x.i : Int) + (0 : Int) - (x.pos : Int) >= (0 : Int))) (Rf x.bb /\ Br (decide ((x.i : Int) + (0 : Int) - (x.pos : Int) < (x.bn : Int))) (Rf x.bb /\ ((0 : Int) <= (x.i : Int) + (0 : Int) - (x.pos : Int) /\ (x.i : Int) + (0 : Int) - (x.pos : Int) <= (x.bn : Int) /\ (x.bn : Int) <= (↑(capVal x.bv) : Int)) /\ Rf x.bb /\ Rf x.bb /\ ∃ x1 : Value × Nat, (x1.2 = x.bn - (x.i - x.pos) /\ vw x.bb x.arr x.bs x1.1 x1.2 x.i) /\ x.m = x.m /\ Rl x.rel /\ Rf x.bb /\ (Rf x.sb /\ Ro) /\ (x.i : Int) + (0 : Int) = (x.i : Int) /\ (sliceVal x.bv (Int.toNat ((x.i : Int) + (0 : Int) - (x.pos : Int))) x.bn 1 = x1.1 /\ x.bn - Int.toNat ((x.i : Int) + (0 : Int) - (x.pos : Int)) = x1.2) /\ (Rf 512 /\ Rf x.arr) /\ Rf x.sb /\ (Rf x.vs /\ Rf (ints x.bs)) /\ (x.i : Int) + (0 : Int) = (x.i : Int) /\ Rf (-1 : Int) /\ True) (Rf x.bb /\ Rf x.bb /\ ∃ x1 : Value × Nat, (x1.2 = x.bn - (x.i - x.pos) /\ vw x.bb x.arr x.bs x1.1 x1.2 x.i) /\ x.m = x.m /\ Rl x.rel /\ Rf x.bb /\ (Rf x.sb /\ Ro) /\ (x.i : Int) + (0 : Int) = (x.i : Int) /\ (Rn /\ Value.slice none 0 0 = x1.1 /\ x1.2 = 0) /\ (Rf 512 /\ Rf x.arr) /\ Rf x.sb /\ (Rf x.vs /\ Rf (ints x.bs)) /\ (x.i : Int) + (0 : Int) = (x.i : Int) /\ Rf (-1 : Int) /\ True)) (Rf x.bb /\ Rf x.bb /\ ∃ x1 : Value × Nat, (x1.2 = x.bn - (x.i - x.pos) /\ vw x.bb x.arr x.bs x1.1 x1.2 x.i) /\ x.m = x.m /\ Rl x.rel /\ Rf x.bb /\ (Rf x.sb /\ Ro) /\ (x.i : Int) + (0 : Int) = (x.i : Int) /\ (Rn /\ Value.slice none 0 0 = x1.1 /\ x1.2 = 0) /\ (Rf 512 /\ Rf x.arr) /\ Rf x.sb /\ (Rf x.vs /\ Rf (ints x.bs)) /\ (x.i : Int) + (0 : Int) = (x.i : Int) /\ Rf (-1 : Int) /\ True)
noncomputable def law_c217 (G : Gl) (x : RB) : VCT := fnx (CH G 2) (INH G 2 no NA) noAnn Tryz.f217 (c217.args x) (c217.H x) (outK true 4 (c217.ret x)) (c217.pan x)
theorem eq_c217 (G : Gl) (x : RB) : cond_c217 G x = (law_c217 G x).den := by kernel_rfl
def cond_c212 (G : Gl) (x : RB) : Prop :=
 ∀ x1 : Fz, rbOK (RB.mk x1 x.rel x.bb x.sb x.pos x.bv x.bn x.arr x.vs (nats (ints x.bs)) x.i x.prev) /\ (Rf x.bb /\ Ro) /\ x1 = x1 /\ Rl x.rel /\ Rf x.bb /\ (Rf x.sb /\ Ro) /\ Rf (x.pos : Int) /\ (Rf x.bv /\ Rf x.bn) /\ (Rf 512 /\ Rf x.arr) /\ Rf x.sb /\ (Rf x.vs /\ ints x.bs = ints (nats (ints x.bs))) /\ Rf (x.i : Int) /\ Rf x.prev /\ ∀ x2 : Value × Nat, (x2.2 = x.bn - (x.i - x.pos) /\ vw x.bb x.arr (nats (ints x.bs)) x2.1 x2.2 x.i) -> x1 = x1 /\ Rf x.bb /\ Rf x.bb /\ Rf x.sb /\ Rf x.sb /\ Br (decide ((x.i : Int) >= (↑(List.length (ints (nats (ints x.bs)))) : Int))) (Rf (SV.toV (T := TT) (SV.p 2 x.bb (Off.lit 0))) /\ Rf (SV.toV (T := TT) (SV.p 2 x.bb (Off.lit 0))) /\ SV.toV (T := TT) (SV.p 2 x.bb (Off.add (Off.lit 0) 2)) = SV.toV (T := TT) (SV.p 2 x.bb (Off.lit 2)) /\ Rf x.bb /\ Rf (SV.toV (T := TT) (SV.w x2.1 x2.2)) /\ Rf (SV.toV (T := TT) (SV.v (Value.int IntKind.i64 (x2.2 : Int)))) /\ Rf x.bb /\ Rf x.sb /\ Rf x.sb /\ Br (decide ((x.i : Int) >= (↑(List.length (ints (nats (ints x.bs)))) : Int))) (∃ x3 : Value × Nat, (x3.2 = x.bn - (x.i - x.pos) /\ vw x.bb x.arr x.bs x3.1 x3.2 x.i) /\ (0 : Int) = (x3.2 : Int) /\ x.m = x.m /\ Rl x.rel /\ Rf x.bb /\ (Rf x.sb /\ Ro) /\ Rf (x.i : Int) /\ (x2.1 = x3.1 /\ x2.2 = x3.2) /\ (Rf 512 /\ Rf x.arr) /\ Rf x.sb /\ (Rf x.vs /\ ints (nats (ints x.bs)) = ints x.bs) /\ Rf (x.i : Int) /\ Rf (-1 : Int) /\ True) (Rf x.sb /\ Rf x.sb /\ (inI64 ((↑(List.length (ints (nats (ints x.bs)))) : Int) - (x.i : Int))) /\ ∃ x3 : Value × Nat, (x3.2 = x.bn - (x.i - x.pos) /\ vw x.bb x.arr x.bs x3.1 x3.2 x.i) /\ ((↑(List.length (ints (nats (ints x.bs)))) : Int) - (x.i : Int) = (x3.2 : Int)) /\ x.m = x.m /\ Rl x.rel /\ Rf x.bb /\ (Rf x.sb /\ Ro) /\ Rf (x.i : Int) /\ (x2.1 = x3.1 /\ x2.2 = x3.2) /\ (Rf 512 /\ Rf x.arr) /\ Rf x.sb /\ (Rf x.vs /\ ints (nats (ints x.bs)) = ints x.bs) /\ Rf (x.i : Int) /\ Rf (-1 : Int) /\ True)) (Rf x.sb /\ Rf x.sb /\ (inI64 ((↑(List.length (ints (nats (ints x.bs)))) : Int) - (x.i : Int))) /\ Rf (SV.toV (T := TT) (SV.p 2 x.bb (Off.lit 0))) /\ Rf (SV.toV (T := TT) (SV.p 2 x.bb (Off.lit 0))) /\ SV.toV (T := TT) (SV.p 2 x.bb (Off.add (Off.lit 0) 2)) = SV.toV (T := TT) (SV.p 2 x.bb (Off.lit 2)) /\ Rf x.bb /\ Rf (SV.toV (T := TT) (SV.w x2.1 x2.2)) /\ Rf (SV.toV (T := TT) (SV.v (Value.int IntKind.i64 (x2.2 : Int)))) /\ Br (decide ((↑(List.length (ints (nats (ints x.bs)))) : Int) - (x.i : Int) > (x2.2 : Int))) (Rf x.bb /\ ∃ x3 : Value × Nat, (x3.2 = x.bn - (x.i - x.pos) /\ vw x.bb x.arr x.bs x3.1 x3.2 x.i) /\ (x2.2 : Int) = (x3.2 : Int) /\ x.m = x.m /\ Rl x.rel /\ Rf x.bb /\ (Rf x.sb /\ Ro) /\ Rf (x.i : Int) /\ (x2.1 = x3.1 /\ x2.2 = x3.2) /\ (Rf 512 /\ Rf x.arr) /\ Rf x.sb /\ (Rf x.vs /\ ints (nats (ints x.bs)) = ints x.bs) /\ Rf (x.i : Int) /\ Rf (-1 : Int) /\ True) (Rf x.bb /\ Rf x.sb /\ Rf x.sb /\ Br (decide ((x.i : Int) >= (↑(List.length (ints (nats (ints x.bs)))) : Int))) (∃ x3 : Value × Nat, (x3.2 = x.bn - (x.i - x.pos) /\ vw x.bb x.arr x.bs x3.1 x3.2 x.i) /\ (0 : Int) = (x3.2 : Int) /\ x.m = x.m /\ Rl x.rel /\ Rf x.bb /\ (Rf x.sb /\ Ro) /\ Rf (x.i : Int) /\ (x2.1 = x3.1 /\ x2.2 = x3.2) /\ (Rf 512 /\ Rf x.arr) /\ Rf x.sb /\
 (Rf x.vs /\ ints (nats (ints x.bs)) = ints x.bs) /\ Rf (x.i : Int) /\ Rf (-1 : Int) /\ True) (Rf x.sb /\ Rf x.sb /\ (inI64 ((↑(List.length (ints (nats (ints x.bs)))) : Int) - (x.i : Int))) /\ ∃ x3 : Value × Nat, (x3.2 = x.bn - (x.i - x.pos) /\ vw x.bb x.arr x.bs x3.1 x3.2 x.i) /\ ((↑(List.length (ints (nats (ints x.bs)))) : Int) - (x.i : Int) = (x3.2 : Int)) /\ x.m = x.m /\ Rl x.rel /\ Rf x.bb /\ (Rf x.sb /\ Ro) /\ Rf (x.i : Int) /\ (x2.1 = x3.1 /\ x2.2 = x3.2) /\ (Rf 512 /\ Rf x.arr) /\ Rf x.sb /\ (Rf x.vs /\ ints (nats (ints x.bs)) = ints x.bs) /\ Rf (x.i : Int) /\ Rf (-1 : Int) /\ True)))
noncomputable def law_c212 (G : Gl) (x : RB) : VCT := fnx (CH G 2) (INH G 2 b217 NA) noAnn Tryz.f212 (c212.args x) (c212.H x) (outK true 4 (c212.ret x)) (c212.pan x)
theorem eq_c212 (G : Gl) (x : RB) : cond_c212 G x = (law_c212 G x).den := by kernel_rfl
def cond_c213 (G : Gl) (x : RB) (n : Nat) : Prop :=
 Rf x.bb /\ Rf x.sb /\ Rf x.sb /\ Br (decide ((x.i : Int) >= (↑(List.length (ints x.bs)) : Int))) (Br (decide ((↑n : Int) > (0 : Int))) (Rf x.bb /\ Rf x.sb /\ Rf x.sb /\ Br (decide ((x.i : Int) >= (↑(List.length (ints x.bs)) : Int))) (Rf (SV.toV (T := TT) (SV.v (errV (Gl.E G)))) /\ Rf x.bb /\ Rf x.sb /\ Rf x.sb /\ inI64 ((x.i : Int) + (0 : Int)) /\ Rf x.sb /\ ∃ x1 : Unit, True /\ (0 : Int) = (↑n : Int) /\ errV (Gl.E G) = Value.nilIface /\ x.m = x.m /\ Rl x.rel /\ Rf x.bb /\ (Rf x.sb /\ Ro) /\ Rf (x.pos : Int) /\ (Rf x.bv /\ Rf x.bn) /\ (Rf 512 /\ Rf x.arr) /\ Rf x.sb /\ (Rf x.vs /\ Rf (ints x.bs)) /\ (x.i : Int) + (0 : Int) = (↑(x.i + n) : Int) /\ Rf (-1 : Int) /\ True) (Rf x.sb /\ Rf x.sb /\ (inI64 ((↑(List.length (ints x.bs)) : Int) - (x.i : Int))) /\ Rf (SV.toV (T := TT) (SV.v (errV (Gl.E G)))) /\ Rf x.bb /\ Rf x.sb /\ Rf x.sb /\ (inI64 ((x.i : Int) + ((↑(List.length (ints x.bs)) : Int) - (x.i : Int)))) /\ Br (decide ((x.i : Int) + ((↑(List.length (ints x.bs)) : Int) - (x.i : Int)) < (0 : Int))) (False /- "build" -/) (Rf x.sb /\ ∃ x1 : Unit, True /\ ((↑(List.length (ints x.bs)) : Int) - (x.i : Int) = (↑n : Int)) /\ errV (Gl.E G) = Value.nilIface /\ x.m = x.m /\ Rl x.rel /\ Rf x.bb /\ (Rf x.sb /\ Ro) /\ Rf (x.pos : Int) /\ (Rf x.bv /\ Rf x.bn) /\ (Rf 512 /\ Rf x.arr) /\ Rf x.sb /\ (Rf x.vs /\ Rf (ints x.bs)) /\ ((x.i : Int) + ((↑(List.length (ints x.bs)) : Int) - (x.i : Int)) = (↑(x.i + n) : Int)) /\ Rf (-1 : Int) /\ True))) (Rf x.bb /\ Rf x.sb /\ Rf x.sb /\ inI64 ((x.i : Int) + (↑n : Int)) /\ Rf x.sb /\ ∃ x1 : Unit, True /\ Rf (↑n : Int) /\ Rf Value.nilIface /\ x.m = x.m /\ Rl x.rel /\ Rf x.bb /\ (Rf x.sb /\ Ro) /\ Rf (x.pos : Int) /\ (Rf x.bv /\ Rf x.bn) /\ (Rf 512 /\ Rf x.arr) /\ Rf x.sb /\ (Rf x.vs /\ Rf (ints x.bs)) /\ (x.i : Int) + (↑n : Int) = (↑(x.i + n) : Int) /\ Rf (-1 : Int) /\ True)) (Rf x.sb /\ Rf x.sb /\ (inI64 ((↑(List.length (ints x.bs)) : Int) - (x.i : Int))) /\ Br (decide ((↑n : Int) > (↑(List.length (ints x.bs)) : Int) - (x.i : Int))) (Rf x.bb /\ Rf x.sb /\ Rf x.sb /\ Br (decide ((x.i : Int) >= (↑(List.length (ints x.bs)) : Int))) (Rf (SV.toV (T := TT) (SV.v (errV (Gl.E G)))) /\ Rf x.bb /\ Rf x.sb /\ Rf x.sb /\ inI64 ((x.i : Int) + (0 : Int)) /\ Rf x.sb /\ ∃ x1 : Unit, True /\ (0 : Int) = (↑n : Int) /\ errV (Gl.E G) = Value.nilIface /\ x.m = x.m /\ Rl x.rel /\ Rf x.bb /\ (Rf x.sb /\ Ro) /\ Rf (x.pos : Int) /\ (Rf x.bv /\ Rf x.bn) /\ (Rf 512 /\ Rf x.arr) /\ Rf x.sb /\ (Rf x.vs /\ Rf (ints x.bs)) /\ (x.i : Int) + (0 : Int) = (↑(x.i + n) : Int) /\ Rf (-1 : Int) /\ True) (Rf x.sb /\ Rf x.sb /\ (inI64 ((↑(List.length (ints x.bs)) : Int) - (x.i : Int))) /\ Rf (SV.toV (T := TT) (SV.v (errV (Gl.E G)))) /\ Rf x.bb /\ Rf x.sb /\ Rf x.sb /\ (inI64 ((x.i : Int) + ((↑(List.length (ints x.bs)) : Int) - (x.i : Int)))) /\ Br (decide ((x.i : Int) + ((↑(List.length (ints x.bs)) : Int) - (x.i : Int)) < (0 : Int))) (False /- "build" -/) (Rf x.sb /\ ∃ x1 : Unit, True /\ ((↑(List.length (ints x.bs)) : Int) - (x.i : Int) = (↑n : Int)) /\ errV (Gl.E G) = Value.nilIface /\ x.m = x.m /\ Rl x.rel /\ Rf x.bb /\ (Rf x.sb /\ Ro) /\ Rf (x.pos : Int) /\ (Rf x.bv /\ Rf x.bn) /\
 (Rf 512 /\ Rf x.arr) /\ Rf x.sb /\ (Rf x.vs /\ Rf (ints x.bs)) /\ ((x.i : Int) + ((↑(List.length (ints x.bs)) : Int) - (x.i : Int)) = (↑(x.i + n) : Int)) /\ Rf (-1 : Int) /\ True))) (Rf x.bb /\ Rf x.sb /\ Rf x.sb /\ inI64 ((x.i : Int) + (↑n : Int)) /\ Rf x.sb /\ ∃ x1 : Unit, True /\ Rf (↑n : Int) /\ Rf Value.nilIface /\ x.m = x.m /\ Rl x.rel /\ Rf x.bb /\ (Rf x.sb /\ Ro) /\ Rf (x.pos : Int) /\ (Rf x.bv /\ Rf x.bn) /\ (Rf 512 /\ Rf x.arr) /\ Rf x.sb /\ (Rf x.vs /\ Rf (ints x.bs)) /\ (x.i : Int) + (↑n : Int) = (↑(x.i + n) : Int) /\ Rf (-1 : Int) /\ True))
noncomputable def law_c213 (G : Gl) (x : RB) (n : Nat) : VCT := fnx (CH G 2) (INH G 2 no NA) noAnn Tryz.f213 (c213.args (x, n)) (c213.H (x, n)) (outK true 4 (c213.ret (x, n))) (c213.pan (x, n))
theorem eq_c213 (G : Gl) (x : RB) (n : Nat) : cond_c213 G x n = (law_c213 G x n).den := by kernel_rfl
def cond_c214 (G : Gl) (x : RB) (n : Nat) : Prop :=
 Br (decide ((↑n : Int) > (512 : Int))) (((∃ x1 : Y214, (n <= x.bs.length - x.i /\ pk214 x n n x1) /\ (Rn /\ Value.slice none 0 0 = x1.pv /\ n = 0) /\ errV (Gl.S G) = Value.nilIface /\ x.m = x.m /\ Rl x.rel /\ Rf x.bb /\ (Rf x.sb /\ Ro) /\ (x.pos : Int) = (x.i : Int) /\ (x.bv = x1.bv /\ x.bn = x1.bn) /\ (Rf 512 /\ x.arr = x1.arr) /\ Rf x.sb /\ (Rf x.vs /\ Rf (ints x.bs)) /\ Rf (x.i : Int) /\ x.prev = (-1 : Int) /\ True) \/ (∃ x1 : Y214, (x.bs.length - x.i < n /\ pk214 x n (x.bs.length - x.i) x1) /\ (Rn /\ Value.slice none 0 0 = x1.pv /\ x.bs.length - x.i = 0) /\ errV (Gl.S G) = errV (Gl.E G) /\ x.m = x.m /\ Rl x.rel /\ Rf x.bb /\ (Rf x.sb /\ Ro) /\ (x.pos : Int) = (x.i : Int) /\ (x.bv = x1.bv /\ x.bn = x1.bn) /\ (Rf 512 /\ x.arr = x1.arr) /\ Rf x.sb /\ (Rf x.vs /\ Rf (ints x.bs)) /\ Rf (x.i : Int) /\ x.prev = (-1 : Int) /\ True))) (∀ x1 : Fz, rbOK (RB.mk x1 x.rel x.bb x.sb x.pos x.bv x.bn x.arr x.vs (nats (ints x.bs)) x.i x.prev) /\ (Rf x.bb /\ Ro) /\ x1 = x1 /\ Rl x.rel /\ Rf x.bb /\ (Rf x.sb /\ Ro) /\ Rf (x.pos : Int) /\ (Rf x.bv /\ Rf x.bn) /\ (Rf 512 /\ Rf x.arr) /\ Rf x.sb /\ (Rf x.vs /\ ints x.bs = ints (nats (ints x.bs))) /\ Rf (x.i : Int) /\ Rf x.prev /\ ∀ x2 : Value × Nat, (x2.2 = x.bn - (x.i - x.pos) /\ vw x.bb x.arr (nats (ints x.bs)) x2.1 x2.2 x.i) -> x1 = x1 /\ Rf x.bb /\ Br (decide ((x2.2 : Int) >= (↑n : Int))) (Rf x.bb /\ ((0 : Int) <= (0 : Int) /\ (0 : Int) <= (↑n : Int) /\ (↑n : Int) <= (↑(capVal x2.1) : Int)) /\ ((∃ x3 : Y214, (n <= x.bs.length - x.i /\ pk214 x n n x3) /\ (sliceVal x2.1 0 (Int.toNat (↑n : Int)) 1 = x3.pv /\ Int.toNat (↑n : Int) - 0 = n) /\ Rf Value.nilIface /\ x.m = x.m /\ Rl x.rel /\ Rf x.bb /\ (Rf x.sb /\ Ro) /\ Rf (x.i : Int) /\ (x2.1 = x3.bv /\ x2.2 = x3.bn) /\ (Rf 512 /\ x.arr = x3.arr) /\ Rf x.sb /\ (Rf x.vs /\ ints (nats (ints x.bs)) = ints x.bs) /\ Rf (x.i : Int) /\ Rf (-1 : Int) /\ True) \/ (∃ x3 : Y214, (x.bs.length - x.i < n /\ pk214 x n (x.bs.length - x.i) x3) /\ (sliceVal x2.1 0 (Int.toNat (↑n : Int)) 1 = x3.pv /\ Int.toNat (↑n : Int) - 0 = x.bs.length - x.i) /\ Value.nilIface = errV (Gl.E G) /\ x.m = x.m /\ Rl x.rel /\ Rf x.bb /\ (Rf x.sb /\ Ro) /\ Rf (x.i : Int) /\ (x2.1 = x3.bv /\ x2.2 = x3.bn) /\ (Rf 512 /\ x.arr = x3.arr) /\ Rf x.sb /\ (Rf x.vs /\ ints (nats (ints x.bs)) = ints x.bs) /\ Rf (x.i : Int) /\ Rf (-1 : Int) /\ True))) (Rf x.bb /\ ((0 : Int) <= (0 : Int) /\ (0 : Int) <= (512 : Int) /\ (512 : Int) <= (512 : Int) /\ ((0 : Int) < (512 : Int) \/ (0 : Int) = (0 : Int))) /\ Rf x.bb /\ Rf x.sb /\ Br (decide ((x.i : Int) >= (↑(List.length (ints (nats (ints x.bs)))) : Int))) (((0 : Int) <= (0 : Int) /\ (0 : Int) <= (0 : Int) /\ (0 : Int) <= (512 : Int) /\ ((0 : Int) < (512 : Int) \/ (0 : Int) = (0 : Int))) /\ Rf x.bb /\ Br (decide ((0 : Int) < (↑n : Int))) (((0 : Int) <= (0 : Int) /\ (0 : Int) <= (0 : Int) /\ (0 : Int) <= (512 : Int) /\ ((0 : Int) < (512 : Int) \/ (0 : Int) = (0 : Int))) /\ ((∃ x3 : Y214, (n <= x.bs.length - x.i /\ pk214 x n n x3) /\ (Value.slice (some (Addr.mk x.bb 3 none)) 0 512 = x3.pv /\ 0 = n) /\ errV (Gl.E G) = Value.nilIface /\ x.m = x.m /\ Rl x.rel /\ Rf x.bb /\ (Rf x.sb /\ Ro) /\ Rf (x.i : Int) /\
 (Value.slice (some (Addr.mk x.bb 3 none)) 0 512 = x3.bv /\ 0 = x3.bn) /\ (Rf 512 /\ x.arr = x3.arr) /\ Rf x.sb /\ (Rf x.vs /\ ints (nats (ints x.bs)) = ints x.bs) /\ Rf (x.i : Int) /\ Rf (-1 : Int) /\ True) \/ (∃ x3 : Y214, (x.bs.length - x.i < n /\ pk214 x n (x.bs.length - x.i) x3) /\ (Value.slice (some (Addr.mk x.bb 3 none)) 0 512 = x3.pv /\ 0 = x.bs.length - x.i) /\ Rf (errV (Gl.E G)) /\ x.m = x.m /\ Rl x.rel /\ Rf x.bb /\ (Rf x.sb /\ Ro) /\ Rf (x.i : Int) /\ (Value.slice (some (Addr.mk x.bb 3 none)) 0 512 = x3.bv /\ 0 = x3.bn) /\ (Rf 512 /\ x.arr = x3.arr) /\ Rf x.sb /\ (Rf x.vs /\ ints (nats (ints x.bs)) = ints x.bs) /\ Rf (x.i : Int) /\ Rf (-1 : Int) /\ True))) (((0 : Int) <= (0 : Int) /\ (0 : Int) <= (↑n : Int) /\ (↑n : Int) <= (512 : Int) /\ ((0 : Int) < (512 : Int) \/ (0 : Int) = (0 : Int))) /\ ((∃ x3 : Y214, (n <= x.bs.length - x.i /\ pk214 x n n x3) /\ (Value.slice (some (Addr.mk x.bb 3 none)) (Int.toNat (↑n : Int) - 0) 512 = x3.pv /\ Int.toNat (↑n : Int) - 0 = n) /\ Rf Value.nilIface /\ x.m = x.m /\ Rl x.rel /\ Rf x.bb /\ (Rf x.sb /\ Ro) /\ Rf (x.i : Int) /\ (Value.slice (some (Addr.mk x.bb 3 none)) 0 512 = x3.bv /\ 0 = x3.bn) /\ (Rf 512 /\ x.arr = x3.arr) /\ Rf x.sb /\ (Rf x.vs /\ ints (nats (ints x.bs)) = ints x.bs) /\ Rf (x.i : Int) /\ Rf (-1 : Int) /\ True) \/ (∃ x3 : Y214, (x.bs.length - x.i < n /\ pk214 x n (x.bs.length - x.i) x3) /\ (Value.slice (some (Addr.mk x.bb 3 none)) (Int.toNat (↑n : Int) - 0) 512 = x3.pv /\ Int.toNat (↑n : Int) - 0 = x.bs.length - x.i) /\ Value.nilIface = errV (Gl.E G) /\ x.m = x.m /\ Rl x.rel /\ Rf x.bb /\ (Rf x.sb /\ Ro) /\ Rf (x.i : Int) /\ (Value.slice (some (Addr.mk x.bb 3 none)) 0 512 = x3.bv /\ 0 = x3.bn) /\ (Rf 512 /\ x.arr = x3.arr) /\ Rf x.sb /\ (Rf x.vs /\ ints (nats (ints x.bs)) = ints x.bs) /\ Rf (x.i : Int) /\ Rf (-1 : Int) /\ True)))) (Rf x.sb /\ ((0 : Int) <= (x.i : Int) /\ (x.i : Int) <= (↑(List.length (ints (nats (ints x.bs)))) : Int) /\ (↑(List.length (ints (nats (ints x.bs)))) : Int) <= (↑(List.length (ints (nats (ints x.bs)))) : Int)) /\ (Rf x.bb /\ 512 <= x.arr.length) /\ Br (decide ((↑(min (List.length (List.drop x.i (List.take ((List.length (ints (nats (ints x.bs))))) (ints (nats (ints x.bs)))))) 512) : Int) < (512 : Int))) (((0 : Int) <= (0 : Int) /\ (0 : Int) <= (↑(min (List.length (List.drop x.i (List.take ((List.length (ints (nats (ints x.bs))))) (ints (nats (ints x.bs)))))) 512) : Int) /\ (↑(min (List.length (List.drop x.i (List.take ((List.length (ints (nats (ints x.bs))))) (ints (nats (ints x.bs)))))) 512) : Int) <= (512 : Int) /\ ((0 : Int) < (512 : Int) \/ (0 : Int) = (0 : Int))) /\ Rf x.bb /\ Br (decide ((↑(min (List.length (List.drop x.i (List.take ((List.length (ints (nats (ints x.bs))))) (ints (nats (ints x.bs)))))) 512) : Int) < (↑n : Int)))
 (((0 : Int) <= (0 : Int) /\ (0 : Int) <= (↑(min (List.length (List.drop x.i (List.take ((List.length (ints (nats (ints x.bs))))) (ints (nats (ints x.bs)))))) 512) : Int) /\ (↑(min (List.length (List.drop x.i (List.take ((List.length (ints (nats (ints x.bs))))) (ints (nats (ints x.bs)))))) 512) : Int) <= (512 : Int) /\ ((0 : Int) < (512 : Int) \/ (0 : Int) = (0 : Int))) /\ ((∃ x3 : Y214, (n <= x.bs.length - x.i /\ pk214 x n n x3) /\ (Value.slice (some (Addr.mk x.bb 3 none)) ((min (List.length (List.drop x.i (List.take ((List.length (ints (nats (ints x.bs))))) (ints (nats (ints x.bs)))))) 512) - 0) 512 = x3.pv /\ (min (List.length (List.drop x.i (List.take ((List.length (ints (nats (ints x.bs))))) (ints (nats (ints x.bs)))))) 512) - 0 = n) /\ errV (Gl.E G) = Value.nilIface /\ x.m = x.m /\ Rl x.rel /\ Rf x.bb /\ (Rf x.sb /\ Ro) /\ Rf (x.i : Int) /\ (Value.slice (some (Addr.mk x.bb 3 none)) ((min (List.length (List.drop x.i (List.take ((List.length (ints (nats (ints x.bs))))) (ints (nats (ints x.bs)))))) 512) - 0) 512 = x3.bv /\ (min (List.length (List.drop x.i (List.take ((List.length (ints (nats (ints x.bs))))) (ints (nats (ints x.bs)))))) 512) - 0 = x3.bn) /\ (Rf 512 /\ List.take 0 x.arr ++ List.take (min (List.length (List.drop x.i (List.take ((List.length (ints (nats (ints x.bs))))) (ints (nats (ints x.bs)))))) 512) (List.drop x.i (List.take ((List.length (ints (nats (ints x.bs))))) (ints (nats (ints x.bs))))) ++ List.drop ((0 : Nat) + min (List.length (List.drop x.i (List.take ((List.length (ints (nats (ints x.bs))))) (ints (nats (ints x.bs)))))) 512) x.arr = x3.arr) /\ Rf x.sb /\ (Rf x.vs /\ ints (nats (ints x.bs)) = ints x.bs) /\ Rf (x.i : Int) /\ Rf (-1 : Int) /\ True) \/ (∃ x3 : Y214, (x.bs.length - x.i < n /\ pk214 x n (x.bs.length - x.i) x3) /\ (Value.slice (some (Addr.mk x.bb 3 none)) ((min (List.length (List.drop x.i (List.take ((List.length (ints (nats (ints x.bs))))) (ints (nats (ints x.bs)))))) 512) - 0) 512 = x3.pv /\ (min (List.length (List.drop x.i (List.take ((List.length (ints (nats (ints x.bs))))) (ints (nats (ints x.bs)))))) 512) - 0 = x.bs.length - x.i) /\ Rf (errV (Gl.E G)) /\ x.m = x.m /\ Rl x.rel /\ Rf x.bb /\ (Rf x.sb /\ Ro) /\ Rf (x.i : Int) /\ (Value.slice (some (Addr.mk x.bb 3 none)) ((min (List.length (List.drop x.i (List.take ((List.length (ints (nats (ints x.bs))))) (ints (nats (ints x.bs)))))) 512) - 0) 512 = x3.bv /\ (min (List.length (List.drop x.i (List.take ((List.length (ints (nats (ints x.bs))))) (ints (nats (ints x.bs)))))) 512) - 0 = x3.bn) /\ (Rf 512 /\ List.take 0 x.arr ++ List.take (min (List.length (List.drop x.i (List.take ((List.length (ints (nats (ints x.bs))))) (ints (nats (ints x.bs)))))) 512) (List.drop x.i (List.take ((List.length (ints (nats (ints x.bs))))) (ints (nats (ints x.bs))))) ++ List.drop ((0 : Nat) + min (List.length (List.drop x.i (List.take ((List.length (ints (nats (ints x.bs))))) (ints (nats (ints x.bs)))))) 512) x.arr = x3.arr) /\ Rf x.sb /\ (Rf x.vs /\ ints (nats (ints x.bs)) = ints x.bs) /\ Rf (x.i : Int) /\ Rf (-1 : Int) /\
 True))) (((0 : Int) <= (0 : Int) /\ (0 : Int) <= (↑n : Int) /\ (↑n : Int) <= (512 : Int) /\ ((0 : Int) < (512 : Int) \/ (0 : Int) = (0 : Int))) /\ ((∃ x3 : Y214, (n <= x.bs.length - x.i /\ pk214 x n n x3) /\ (Value.slice (some (Addr.mk x.bb 3 none)) (Int.toNat (↑n : Int) - 0) 512 = x3.pv /\ Int.toNat (↑n : Int) - 0 = n) /\ Rf Value.nilIface /\ x.m = x.m /\ Rl x.rel /\ Rf x.bb /\ (Rf x.sb /\ Ro) /\ Rf (x.i : Int) /\ (Value.slice (some (Addr.mk x.bb 3 none)) ((min (List.length (List.drop x.i (List.take ((List.length (ints (nats (ints x.bs))))) (ints (nats (ints x.bs)))))) 512) - 0) 512 = x3.bv /\ (min (List.length (List.drop x.i (List.take ((List.length (ints (nats (ints x.bs))))) (ints (nats (ints x.bs)))))) 512) - 0 = x3.bn) /\ (Rf 512 /\ List.take 0 x.arr ++ List.take (min (List.length (List.drop x.i (List.take ((List.length (ints (nats (ints x.bs))))) (ints (nats (ints x.bs)))))) 512) (List.drop x.i (List.take ((List.length (ints (nats (ints x.bs))))) (ints (nats (ints x.bs))))) ++ List.drop ((0 : Nat) + min (List.length (List.drop x.i (List.take ((List.length (ints (nats (ints x.bs))))) (ints (nats (ints x.bs)))))) 512) x.arr = x3.arr) /\ Rf x.sb /\ (Rf x.vs /\ ints (nats (ints x.bs)) = ints x.bs) /\ Rf (x.i : Int) /\ Rf (-1 : Int) /\ True) \/ (∃ x3 : Y214, (x.bs.length - x.i < n /\ pk214 x n (x.bs.length - x.i) x3) /\ (Value.slice (some (Addr.mk x.bb 3 none)) (Int.toNat (↑n : Int) - 0) 512 = x3.pv /\ Int.toNat (↑n : Int) - 0 = x.bs.length - x.i) /\ Value.nilIface = errV (Gl.E G) /\ x.m = x.m /\ Rl x.rel /\ Rf x.bb /\ (Rf x.sb /\ Ro) /\ Rf (x.i : Int) /\ (Value.slice (some (Addr.mk x.bb 3 none)) ((min (List.length (List.drop x.i (List.take ((List.length (ints (nats (ints x.bs))))) (ints (nats (ints x.bs)))))) 512) - 0) 512 = x3.bv /\ (min (List.length (List.drop x.i (List.take ((List.length (ints (nats (ints x.bs))))) (ints (nats (ints x.bs)))))) 512) - 0 = x3.bn) /\ (Rf 512 /\ List.take 0 x.arr ++ List.take (min (List.length (List.drop x.i (List.take ((List.length (ints (nats (ints x.bs))))) (ints (nats (ints x.bs)))))) 512) (List.drop x.i (List.take ((List.length (ints (nats (ints x.bs))))) (ints (nats (ints x.bs))))) ++ List.drop ((0 : Nat) + min (List.length (List.drop x.i (List.take ((List.length (ints (nats (ints x.bs))))) (ints (nats (ints x.bs)))))) 512) x.arr = x3.arr) /\ Rf x.sb /\ (Rf x.vs /\ ints (nats (ints x.bs)) = ints x.bs) /\ Rf (x.i : Int) /\ Rf (-1 : Int) /\ True)))) (((0 : Int) <= (0 : Int) /\ (0 : Int) <= (↑(min (List.length (List.drop x.i (List.take ((List.length (ints (nats (ints x.bs))))) (ints (nats (ints x.bs)))))) 512) : Int) /\ (↑(min (List.length (List.drop x.i (List.take ((List.length (ints (nats (ints x.bs))))) (ints (nats (ints x.bs)))))) 512) : Int) <= (512 : Int) /\ ((0 : Int) < (512 : Int) \/ (0 : Int) = (0 : Int))) /\ Rf x.bb /\ Br (decide ((↑(min (List.length (List.drop x.i (List.take ((List.length (ints (nats (ints x.bs))))) (ints (nats (ints x.bs)))))) 512) : Int) < (↑n : Int)))
 (((0 : Int) <= (0 : Int) /\ (0 : Int) <= (↑(min (List.length (List.drop x.i (List.take ((List.length (ints (nats (ints x.bs))))) (ints (nats (ints x.bs)))))) 512) : Int) /\ (↑(min (List.length (List.drop x.i (List.take ((List.length (ints (nats (ints x.bs))))) (ints (nats (ints x.bs)))))) 512) : Int) <= (512 : Int) /\ ((0 : Int) < (512 : Int) \/ (0 : Int) = (0 : Int))) /\ ((∃ x3 : Y214, (n <= x.bs.length - x.i /\ pk214 x n n x3) /\ (Value.slice (some (Addr.mk x.bb 3 none)) ((min (List.length (List.drop x.i (List.take ((List.length (ints (nats (ints x.bs))))) (ints (nats (ints x.bs)))))) 512) - 0) 512 = x3.pv /\ (min (List.length (List.drop x.i (List.take ((List.length (ints (nats (ints x.bs))))) (ints (nats (ints x.bs)))))) 512) - 0 = n) /\ Rf Value.nilIface /\ x.m = x.m /\ Rl x.rel /\ Rf x.bb /\ (Rf x.sb /\ Ro) /\ Rf (x.i : Int) /\ (Value.slice (some (Addr.mk x.bb 3 none)) ((min (List.length (List.drop x.i (List.take ((List.length (ints (nats (ints x.bs))))) (ints (nats (ints x.bs)))))) 512) - 0) 512 = x3.bv /\ (min (List.length (List.drop x.i (List.take ((List.length (ints (nats (ints x.bs))))) (ints (nats (ints x.bs)))))) 512) - 0 = x3.bn) /\ (Rf 512 /\ List.take 0 x.arr ++ List.take (min (List.length (List.drop x.i (List.take ((List.length (ints (nats (ints x.bs))))) (ints (nats (ints x.bs)))))) 512) (List.drop x.i (List.take ((List.length (ints (nats (ints x.bs))))) (ints (nats (ints x.bs))))) ++ List.drop ((0 : Nat) + min (List.length (List.drop x.i (List.take ((List.length (ints (nats (ints x.bs))))) (ints (nats (ints x.bs)))))) 512) x.arr = x3.arr) /\ Rf x.sb /\ (Rf x.vs /\ ints (nats (ints x.bs)) = ints x.bs) /\ Rf (x.i : Int) /\ Rf (-1 : Int) /\ True) \/ (∃ x3 : Y214, (x.bs.length - x.i < n /\ pk214 x n (x.bs.length - x.i) x3) /\ (Value.slice (some (Addr.mk x.bb 3 none)) ((min (List.length (List.drop x.i (List.take ((List.length (ints (nats (ints x.bs))))) (ints (nats (ints x.bs)))))) 512) - 0) 512 = x3.pv /\ (min (List.length (List.drop x.i (List.take ((List.length (ints (nats (ints x.bs))))) (ints (nats (ints x.bs)))))) 512) - 0 = x.bs.length - x.i) /\ Value.nilIface = errV (Gl.E G) /\ x.m = x.m /\ Rl x.rel /\ Rf x.bb /\ (Rf x.sb /\ Ro) /\ Rf (x.i : Int) /\ (Value.slice (some (Addr.mk x.bb 3 none)) ((min (List.length (List.drop x.i (List.take ((List.length (ints (nats (ints x.bs))))) (ints (nats (ints x.bs)))))) 512) - 0) 512 = x3.bv /\ (min (List.length (List.drop x.i (List.take ((List.length (ints (nats (ints x.bs))))) (ints (nats (ints x.bs)))))) 512) - 0 = x3.bn) /\ (Rf 512 /\ List.take 0 x.arr ++ List.take (min (List.length (List.drop x.i (List.take ((List.length (ints (nats (ints x.bs))))) (ints (nats (ints x.bs)))))) 512) (List.drop x.i (List.take ((List.length (ints (nats (ints x.bs))))) (ints (nats (ints x.bs))))) ++ List.drop ((0 : Nat) + min (List.length (List.drop x.i (List.take ((List.length (ints (nats (ints x.bs))))) (ints (nats (ints x.bs)))))) 512) x.arr = x3.arr) /\ Rf x.sb /\ (Rf x.vs /\ ints (nats (ints x.bs)) = ints x.bs) /\ Rf (x.i : Int) /\ Rf (-1 : Int) /\
 True))) (((0 : Int) <= (0 : Int) /\ (0 : Int) <= (↑n : Int) /\ (↑n : Int) <= (512 : Int) /\ ((0 : Int) < (512 : Int) \/ (0 : Int) = (0 : Int))) /\ ((∃ x3 : Y214, (n <= x.bs.length - x.i /\ pk214 x n n x3) /\ (Value.slice (some (Addr.mk x.bb 3 none)) (Int.toNat (↑n : Int) - 0) 512 = x3.pv /\ Int.toNat (↑n : Int) - 0 = n) /\ Rf Value.nilIface /\ x.m = x.m /\ Rl x.rel /\ Rf x.bb /\ (Rf x.sb /\ Ro) /\ Rf (x.i : Int) /\ (Value.slice (some (Addr.mk x.bb 3 none)) ((min (List.length (List.drop x.i (List.take ((List.length (ints (nats (ints x.bs))))) (ints (nats (ints x.bs)))))) 512) - 0) 512 = x3.bv /\ (min (List.length (List.drop x.i (List.take ((List.length (ints (nats (ints x.bs))))) (ints (nats (ints x.bs)))))) 512) - 0 = x3.bn) /\ (Rf 512 /\ List.take 0 x.arr ++ List.take (min (List.length (List.drop x.i (List.take ((List.length (ints (nats (ints x.bs))))) (ints (nats (ints x.bs)))))) 512) (List.drop x.i (List.take ((List.length (ints (nats (ints x.bs))))) (ints (nats (ints x.bs))))) ++ List.drop ((0 : Nat) + min (List.length (List.drop x.i (List.take ((List.length (ints (nats (ints x.bs))))) (ints (nats (ints x.bs)))))) 512) x.arr = x3.arr) /\ Rf x.sb /\ (Rf x.vs /\ ints (nats (ints x.bs)) = ints x.bs) /\ Rf (x.i : Int) /\ Rf (-1 : Int) /\ True) \/ (∃ x3 : Y214, (x.bs.length - x.i < n /\ pk214 x n (x.bs.length - x.i) x3) /\ (Value.slice (some (Addr.mk x.bb 3 none)) (Int.toNat (↑n : Int) - 0) 512 = x3.pv /\ Int.toNat (↑n : Int) - 0 = x.bs.length - x.i) /\ Value.nilIface = errV (Gl.E G) /\ x.m = x.m /\ Rl x.rel /\ Rf x.bb /\ (Rf x.sb /\ Ro) /\ Rf (x.i : Int) /\ (Value.slice (some (Addr.mk x.bb 3 none)) ((min (List.length (List.drop x.i (List.take ((List.length (ints (nats (ints x.bs))))) (ints (nats (ints x.bs)))))) 512) - 0) 512 = x3.bv /\ (min (List.length (List.drop x.i (List.take ((List.length (ints (nats (ints x.bs))))) (ints (nats (ints x.bs)))))) 512) - 0 = x3.bn) /\ (Rf 512 /\ List.take 0 x.arr ++ List.take (min (List.length (List.drop x.i (List.take ((List.length (ints (nats (ints x.bs))))) (ints (nats (ints x.bs)))))) 512) (List.drop x.i (List.take ((List.length (ints (nats (ints x.bs))))) (ints (nats (ints x.bs))))) ++ List.drop ((0 : Nat) + min (List.length (List.drop x.i (List.take ((List.length (ints (nats (ints x.bs))))) (ints (nats (ints x.bs)))))) 512) x.arr = x3.arr) /\ Rf x.sb /\ (Rf x.vs /\ ints (nats (ints x.bs)) = ints x.bs) /\ Rf (x.i : Int) /\ Rf (-1 : Int) /\ True)))))))
noncomputable def law_c214 (G : Gl) (x : RB) (n : Nat) : VCT := fnx (CH G 2) (INH G 2 b217 NA) noAnn Tryz.f214 ((c214 G).args (x, n)) ((c214 G).H (x, n)) (outK true 4 ((c214 G).ret (x, n))) ((c214 G).pan (x, n))
theorem eq_c214 (G : Gl) (x : RB) (n : Nat) : cond_c214 G x n = (law_c214 G x n).den := by kernel_rfl
theorem ok_c217 (G : Gl) (x : RB) (hx : rbOK x) : cond_c217 G x := by
 unfold cond_c217
 obtain ⟨ha, hp, hi, hl, hv⟩ := hx
 have hc := vw_cap hv
 simp only [br_d, rel_self, true_and, and_true, inI64, Int.toNat_natCast]
 refine ⟨by omega, by omega, fun h1 => ⟨fun h2 => ⟨by omega, ⟨sliceVal x.bv (x.i - x.pos) x.bn 1, x.bn - (x.i - x.pos)⟩, ⟨rfl, vw_at (vw_sub hv (by omega) (Nat.le_refl _)) (by omega)⟩, by omega, ⟨?_, ?_⟩, by omega⟩, fun h2 => ⟨⟨.slice none 0 0, 0⟩, ⟨by dsimp only; omega, vw_nil _ _ _ _⟩, by omega, ⟨rfl, rfl⟩, by omega⟩⟩, fun h1 => by omega⟩
 . congr 1; omega
 . dsimp only; omega
theorem ok_c212 (G : Gl) (x : RB) (hx : rbOK x) : cond_c212 G x := by
 unfold cond_c212
 have hx' := hx
 obtain ⟨ha, hp, hi, hl, hv⟩ := hx
 have e3 : ∀ l : List Nat, nats (ints l) = l := nats_ints
 simp only [br_d, rel_self, true_and, and_true, inI64, Int.toNat_natCast, e3, ints_len]
 refine fun m => ⟨⟨ha, hp, hi, hl, hv⟩, fun y hy => ?_⟩
 have h2 := vw_end hv
 refine ⟨fun h1 => ⟨rfl, fun _ => ⟨y, hy, by omega, rfl, rfl⟩, fun h2 => absurd h1 h2⟩, fun h1 => ⟨by omega, rfl, fun h2 => ⟨y, hy, rfl, rfl, rfl⟩, fun h2 => ⟨fun h3 => absurd h3 h1, fun h3 => ⟨by omega, y, hy, by omega, rfl, rfl⟩⟩⟩⟩
theorem ok_c213 (G : Gl) (x : RB) (n : Nat) (hx : rbOK x) (hn : x.i + n <= x.bs.length) : cond_c213 G x n := by
 unfold cond_c213
 obtain ⟨ha, hp, hi, hl, hv⟩ := hx
 simp only [br_d, rel_self, true_and, and_true, inI64, ints_len]
 exact ⟨fun h1 => ⟨fun h2 => by omega, fun h2 => ⟨by omega, (), by omega⟩⟩, fun h1 => ⟨by omega, fun h2 => by omega, fun h2 => ⟨by omega, (), by omega⟩⟩⟩
theorem vw_n {b : Nat} {arr : List Int} {bs : List Nat} {v : Value} {n n' q : Nat} (h : vw b arr bs v n q) (e : n = n') : vw b arr bs v n' q := e ▸ h
theorem vw_fill {b : Nat} {bs : List Nat} {rest : List Int} {i k m : Nat} (hi : i <= bs.length) (hm : m <= bs.length - i) (hk : k <= m) (h512 : m <= 512) : vw b ((ints (bs.drop i)).take m ++ rest) bs (.slice (some ⟨b, 3, none⟩) k 512) k i := by
 refine .inr ⟨0, 512, rfl, by omega, by omega, by omega, ?_⟩
 rw [List.drop_zero, List.take_append_of_le_length (by rw [List.length_take, ints_len, List.length_drop]; omega), List.take_take, Nat.min_eq_left hk]
 simp [ints, List.map_take]
theorem ok_c214 (G : Gl) (x : RB) (n : Nat) (hx : rbOK x) (hn : n <= 512) : cond_c214 G x n := by
 unfold cond_c214
 obtain ⟨ha, hp, hi, hl, hv⟩ := hx
 have e3 : ∀ l : List Nat, nats (ints l) = l := nats_ints
 have e12 : List.drop x.i (List.take x.bs.length (ints x.bs)) = ints (x.bs.drop x.i) := by rw [<- ints_drop x.bs x.i, ints_len]
 obtain ⟨M, hM⟩ : ∃ M, M = min (x.bs.length - x.i) 512 := ⟨_, rfl⟩
 simp only [br_d, rel_self, true_and, and_true, Int.toNat_natCast, e3, ints_len, e12, List.length_drop, <- hM, List.take_zero, List.nil_append, Nat.zero_add, Nat.sub_zero]
 have hl2 : ∀ k, ((ints (x.bs.drop x.i)).take M ++ x.arr.drop M).length = k -> k = 512 := fun k h => by
   rw [<- h, List.length_append, List.length_take, ints_len, List.length_drop, List.length_drop]; omega
 refine ⟨fun h => by omega, fun _ m => ⟨⟨ha, hp, hi, hl, hv⟩, fun y hy => ⟨fun h1 => ⟨by have := vw_cap hy.2; omega, .inl ⟨⟨sliceVal y.1 0 n 1, y.1, y.2, x.arr⟩, ⟨?_, ha, vw_sub hy.2 (Nat.zero_le _) (by omega), hy.2, by dsimp only; omega⟩, rfl, ⟨rfl, rfl⟩, rfl⟩⟩, fun h1 => ⟨by simp, fun h2 => ⟨by simp, fun h3 => ⟨by simp, .inr ⟨⟨.slice (some ⟨x.bb, 3, none⟩) 0 512, .slice (some ⟨x.bb, 3, none⟩) 0 512, 0, x.arr⟩, ⟨by omega, ha, ?_, ?_, by dsimp only; omega⟩, ⟨rfl, by omega⟩, ⟨rfl, rfl⟩, rfl⟩⟩, fun h3 => by omega⟩, fun h2 => ⟨by omega, by omega, fun h3 => ⟨by omega, fun h4 => ⟨by omega, .inr ⟨⟨.slice (some ⟨x.bb, 3, none⟩) M 512, .slice (some ⟨x.bb, 3, none⟩) M 512, M, _⟩, ⟨by omega, hl2 _ rfl, vw_at (vw_n (vw_fill (k := M) hi (by omega) (Nat.le_refl _) (by omega)) (by omega)) rfl, vw_fill hi (by omega) (Nat.le_refl _) (by omega), by dsimp only; omega⟩, ⟨rfl, by omega⟩, ⟨rfl, rfl⟩, rfl⟩⟩, fun h4 => ⟨by omega, .inl ⟨⟨.slice (some ⟨x.bb, 3, none⟩) n 512, .slice (some ⟨x.bb, 3, none⟩) M 512, M, _⟩, ⟨by omega, hl2 _ rfl, vw_fill hi (by omega) (by omega) (by omega), vw_fill hi (by omega) (Nat.le_refl _) (by omega), by dsimp only; omega⟩, rfl, ⟨rfl, rfl⟩, rfl⟩⟩⟩, fun h3 => ⟨by omega, fun h4 => by omega, fun h4 => ⟨by omega, .inl ⟨⟨.slice (some ⟨x.bb, 3, none⟩) n 512, .slice (some ⟨x.bb, 3, none⟩) M 512, M, _⟩, ⟨by omega, hl2 _ rfl, vw_fill hi (by omega) (by omega) (by omega), vw_fill hi (by omega) (Nat.le_refl _) (by omega), by dsimp only; omega⟩, rfl, ⟨rfl, rfl⟩, rfl⟩⟩⟩⟩⟩⟩⟩⟩
 . have := vw_end hv; omega
 . have e : x.bs.length - x.i = 0 := by omega
   dsimp only
   rw [e]
   exact .inr ⟨0, 512, rfl, by omega, by omega, by omega, by simp [ints]⟩
 . dsimp only
   exact .inr ⟨0, 512, rfl, by omega, by omega, by omega, by simp [ints]⟩
theorem s217 (G : Gl) : SpecOK (CC G) 217 c217.pt := specH G 2 (no_ok G) (fn := Tryz.f217) rfl NA c217 (fun _ => noAnn) fun x h => Met.of (eq_c217 G x) (ok_c217 G x h)
theorem b217_ok (G : Gl) : ∀ f pt, b217 f = some pt -> SpecOK (CC G) f pt := by
 intro f pt h
 unfold b217 at h
 split at h
 . cases h; exact loc_ok (s217 G) _
 . cases h
theorem s212 (G : Gl) : SpecOK (CC G) 212 c212.pt := specH G 2 (b217_ok G) (fn := Tryz.f212) rfl NA c212 (fun _ => noAnn) fun x h => Met.of (eq_c212 G x) (ok_c212 G x h)
theorem s213 (G : Gl) : SpecOK (CC G) 213 c213.pt := specH G 2 (no_ok G) (fn := Tryz.f213) rfl NA c213 (fun _ => noAnn) fun ⟨x, n⟩ h => Met.of (eq_c213 G x n) (ok_c213 G x n h.1 h.2)
theorem s214 (G : Gl) : SpecOK (CC G) 214 (c214 G).pt := specH G 2 (b217_ok G) (fn := Tryz.f214) rfl NA (c214 G) (fun _ => noAnn) fun ⟨x, n⟩ h => Met.of (eq_c214 G x n) (ok_c214 G x n h.1 h.2)
end Pc
/-
 The reader does what its contracts say (part 1).
-/
set_option linter.unusedVariables false
set_option maxRecDepth 100000
open Go Go.Vg Go.Proofs
namespace Pc
def cond_c164 (G : Gl) (m : Fz) (rel : Rel TT) (n : Nat) : Prop :=
 ((0 : Int) <= (1 : Int)) /\ (0 : Int) <= (1 : Int) /\ (0 : Int) <= (2 : Int) /\ (0 : Int) <= (2 : Int) /\ (0 : Int) <= (4 : Int) /\ (0 : Int) <= (4 : Int) /\ ∃ x1 : Unit, True /\ (bitI BinOp.or IntKind.u8 (shrI IntKind.u8 (bitI BinOp.and IntKind.u8 (bitI BinOp.or IntKind.u8 (shrI IntKind.u8 (bitI BinOp.and IntKind.u8 (bitI BinOp.or IntKind.u8 (shrI IntKind.u8 (bitI BinOp.and IntKind.u8 (↑n : Int) (170 : Int)) (1 : Int)) (shlI IntKind.u8 (bitI BinOp.and IntKind.u8 (↑n : Int) (85 : Int)) (1 : Int))) (204 : Int)) (2 : Int)) (shlI IntKind.u8 (bitI BinOp.and IntKind.u8 (bitI BinOp.or IntKind.u8 (shrI IntKind.u8 (bitI BinOp.and IntKind.u8 (↑n : Int) (170 : Int)) (1 : Int)) (shlI IntKind.u8 (bitI BinOp.and IntKind.u8 (↑n : Int) (85 : Int)) (1 : Int))) (51 : Int)) (2 : Int))) (240 : Int)) (4 : Int)) (shlI IntKind.u8 (bitI BinOp.and IntKind.u8 (bitI BinOp.or IntKind.u8 (shrI IntKind.u8 (bitI BinOp.and IntKind.u8 (bitI BinOp.or IntKind.u8 (shrI IntKind.u8 (bitI BinOp.and IntKind.u8 (↑n : Int) (170 : Int)) (1 : Int)) (shlI IntKind.u8 (bitI BinOp.and IntKind.u8 (↑n : Int) (85 : Int)) (1 : Int))) (204 : Int)) (2 : Int)) (shlI IntKind.u8 (bitI BinOp.and IntKind.u8 (bitI BinOp.or IntKind.u8 (shrI IntKind.u8 (bitI BinOp.and IntKind.u8 (↑n : Int) (170 : Int)) (1 : Int)) (shlI IntKind.u8 (bitI BinOp.and IntKind.u8 (↑n : Int) (85 : Int)) (1 : Int))) (51 : Int)) (2 : Int))) (15 : Int)) (4 : Int)) = (↑(numL (byteBits true n)) : Int)) /\ m = m /\ relLe rel rel /\ True
noncomputable def law_c164 (G : Gl) (m : Fz) (rel : Rel TT) (n : Nat) : VCT := fnx (CC G) (IN G no NA) noAnn Tryz.f164 (c164.args (m, rel, n)) (c164.H (m, rel, n)) (outK true 2 (c164.ret (m, rel, n))) (c164.pan (m, rel, n))
theorem eq_c164 (G : Gl) (m : Fz) (rel : Rel TT) (n : Nat) : cond_c164 G m rel n = (law_c164 G m rel n).den := by kernel_rfl
def cond_c80 (G : Gl) (P : Nat) (x : RS) : Prop :=
 Rf x.rb /\ Rf x.rb /\ Rf x.rb /\ Rf x.rb /\ inI64 (IntKind.wrap IntKind.u64 ((x.fed : Int) - (x.num : Int))) /\ inI64 (x.dis + IntKind.wrap IntKind.u64 ((x.fed : Int) - (x.num : Int))) /\ Rf x.rb /\ Rf x.rb /\ Rf x.rb /\ Rf x.rb /\ inI64 (x.dis + IntKind.wrap IntKind.u64 ((x.fed : Int) - (x.num : Int)) + (7 : Int)) /\ (8 : Int) ≠ (0 : Int) /\ Rf x.rb /\ ∀ x1 : Fz, (rbOK (RB.mk x1 x.rel x.bb x.sb x.pos x.bv x.bn x.arr x.vs (nats (ints x.bs)) x.off x.prev) /\ x.off + Int.toNat (IntKind.wrap IntKind.i64 (Int.tdiv (x.dis + IntKind.wrap IntKind.u64 ((x.fed : Int) - (x.num : Int)) + (7 : Int)) (8 : Int))) <= List.length (nats (ints x.bs))) /\ (Rf x.bb /\ Ro) /\ (IntKind.wrap IntKind.i64 (Int.tdiv (x.dis + IntKind.wrap IntKind.u64 ((x.fed : Int) - (x.num : Int)) + (7 : Int)) (8 : Int)) = (↑(Int.toNat (IntKind.wrap IntKind.i64 (Int.tdiv (x.dis + IntKind.wrap IntKind.u64 ((x.fed : Int) - (x.num : Int)) + (7 : Int)) (8 : Int)))) : Int)) /\ x1 = x1 /\ Rl x.rel /\ Rf x.bb /\ (Rf x.sb /\ Ro) /\ Rf (x.pos : Int) /\ (Rf x.bv /\ Rf x.bn) /\ (Rf 512 /\ Rf x.arr) /\ Rf x.sb /\ (Rf x.vs /\ ints x.bs = ints (nats (ints x.bs))) /\ Rf (x.off : Int) /\ Rf x.prev /\ ∀ x2 : Unit, (True -> x1 = x1 /\ Rf x.rb /\ (inI64 ((↑(Int.toNat (IntKind.wrap IntKind.i64 (Int.tdiv (x.dis + IntKind.wrap IntKind.u64 ((x.fed : Int) - (x.num : Int)) + (7 : Int)) (8 : Int)))) : Int) * (8 : Int))) /\ (inI64 (x.dis + IntKind.wrap IntKind.u64 ((x.fed : Int) - (x.num : Int)) - (↑(Int.toNat (IntKind.wrap IntKind.i64 (Int.tdiv (x.dis + IntKind.wrap IntKind.u64 ((x.fed : Int) - (x.num : Int)) + (7 : Int)) (8 : Int)))) : Int) * (8 : Int))) /\ Rf x.rb /\ Rf x.rb /\ (inI64 ((x.off : Int) + (↑(Int.toNat (IntKind.wrap IntKind.i64 (Int.tdiv (x.dis + IntKind.wrap IntKind.u64 ((x.fed : Int) - (x.num : Int)) + (7 : Int)) (8 : Int)))) : Int))) /\ Rf x.rb /\ Rf x.rb /\ Rf x.rb /\ ∃ x3 : Unit, True /\ ((x.off : Int) + (↑(Int.toNat (IntKind.wrap IntKind.i64 (Int.tdiv (x.dis + IntKind.wrap IntKind.u64 ((x.fed : Int) - (x.num : Int)) + (7 : Int)) (8 : Int)))) : Int) = (↑((x.P + 7) / 8) : Int)) /\ Rf Value.nilIface /\ x.m = x.m /\ Rl x.rel /\ Rf x.rb /\ ((x.off : Int) + (↑(Int.toNat (IntKind.wrap IntKind.i64 (Int.tdiv (x.dis + IntKind.wrap IntKind.u64 ((x.fed : Int) - (x.num : Int)) + (7 : Int)) (8 : Int)))) : Int) = (↑((x.P + 7) / 8) : Int)) /\ (Rf x.sb /\ Ro) /\ Rf Value.nilIface /\ (Rf x.bb /\ Ro) /\ Rf (x.bits : Int) /\ Rf (x.num : Int) /\ Rf x.big /\ (Rn /\ Rn /\ Rf 0) /\ (x.dis + IntKind.wrap IntKind.u64 ((x.fed : Int) - (x.num : Int)) - (↑(Int.toNat (IntKind.wrap IntKind.i64 (Int.tdiv (x.dis + IntKind.wrap IntKind.u64 ((x.fed : Int) - (x.num : Int)) + (7 : Int)) (8 : Int)))) : Int) * (8 : Int) = (x.P : Int) - (8 : Int) * (↑((x.P + 7) / 8) : Int)) /\ Rf (x.num : Int) /\ Rf (Value.pointer none) /\ (Rf x.bb /\ Ro) /\ Rf (Value.pointer none) /\ Rf x.sb /\ (Rf x.vs /\ ints (nats (ints x.bs)) = ints x.bs) /\
 ((↑(x.off + Int.toNat (IntKind.wrap IntKind.i64 (Int.tdiv (x.dis + IntKind.wrap IntKind.u64 ((x.fed : Int) - (x.num : Int)) + (7 : Int)) (8 : Int)))) : Int) = (↑((x.P + 7) / 8) : Int)) /\ Rf (-1 : Int) /\ Rf x.bb /\ (Rf x.sb /\ Ro) /\ Rf (x.pos : Int) /\ (Rf x.bv /\ Rf x.bn) /\ (Rf 512 /\ Rf x.arr) /\ True)
noncomputable def law_c80 (G : Gl) (P : Nat) (x : RS) : VCT := fnx (CH G 4) (INH G 4 b80 NA) noAnn Tryz.f80 ((c80 P).args x) ((c80 P).H x) (outK true 5 ((c80 P).ret x)) ((c80 P).pan x)
theorem eq_c80 (G : Gl) (P : Nat) (x : RS) : cond_c80 G P x = (law_c80 G P x).den := by kernel_rfl
theorem ok_c164 (G : Gl) (m : Fz) (rel : Rel TT) (n : Nat) (hn : n < 256) : cond_c164 G m rel n := by
 unfold cond_c164
 refine ⟨by decide, by decide, by decide, by decide, by decide, by decide, (), trivial, ?_, rfl, relLe.refl _, trivial⟩
 exact lut_ok ⟨n, hn⟩
theorem ok_c80 (G : Gl) (P : Nat) (x : RS) (hx : rsW x) : cond_c80 G P x := by
 unfold cond_c80
 obtain ⟨h1, h2, e0, h4, h5, h6, h7, h8, h9, h10, h11, hd, hf⟩ := hx
 have e1 : IntKind.u64.wrap ((x.fed : Int) - (x.num : Int)) = (x.fed : Int) - (x.num : Int) := by rw [wr64]; omega
 have e2 : x.dis + ((x.fed : Int) - (x.num : Int)) = (x.P : Int) - 8 * x.off := by omega
 have e4 : Int.tdiv ((x.P : Int) - 8 * x.off + 7) 8 = (((x.P + 7) / 8 - x.off : Nat) : Int) := by rw [Int.tdiv_eq_ediv_of_nonneg (by omega)]; omega
 have e5 : IntKind.i64.wrap (((x.P + 7) / 8 - x.off : Nat) : Int) = (((x.P + 7) / 8 - x.off : Nat) : Int) := wrI (by omega) (by omega)
 have e3 : ∀ l : List Nat, nats (ints l) = l := nats_ints
 simp only [e1, e2, e4, e5, e3, rel_self, true_and, and_true, inI64, Int.toNat_natCast]
 refine ⟨by omega, by omega, by omega, by decide, fun m => ⟨⟨⟨h8, h7, by dsimp only; omega, h2, h10⟩, by omega⟩, fun _ _ => ⟨by omega, by omega, by omega, (), by omega, by omega, by omega, by omega⟩⟩⟩
theorem s164 (G : Gl) : SpecOK (CC G) 164 c164.pt := spec G (no_ok G) (fn := Tryz.f164) rfl NA c164 (fun _ => noAnn) fun ⟨m, rel, n⟩ h => Met.of (eq_c164 G m rel n) (ok_c164 G m rel n h)
theorem b80_ok (G : Gl) : ∀ f pt, b80 f = some pt -> SpecOK (CC G) f pt := by
 intro f pt h
 unfold b80 at h
 split at h
 . cases h; exact loc_ok (s213 G) _
 . cases h
theorem s80 (G : Gl) (P : Nat) : SpecOK (CC G) 80 (c80 P).pt := specH G 4 (b80_ok G) (fn := Tryz.f80) rfl NA (c80 P) (fun _ => noAnn) fun x h => Met.of (eq_c80 G P x) (ok_c80 G P x h)
end Pc
