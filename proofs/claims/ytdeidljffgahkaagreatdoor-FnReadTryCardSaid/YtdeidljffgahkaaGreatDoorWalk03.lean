/-
  The contract of PullBits.
-/
import Derived.Test.YtdeidljffgahkaaGreatDoorWalk02
set_option linter.unusedVariables false
set_option maxRecDepth 100000
open Go Go.Vg Go.Proofs
namespace Pc
/-- What of a reader changes. -/
structure RV where
  off : Nat
  bits : Nat
  num : Nat
  pk : Value
  pkn : Nat
  dis : Int
  fed : Nat
  pos : Nat
  bv : Value
  bn : Nat
  arr : List Int
  prev : Int
def RS.put (x : RS) (v : RV) : RS := { x with
  off := v.off
  bits := v.bits
  num := v.num
  pk := v.pk
  pkn := v.pkn
  dis := v.dis
  fed := v.fed
  pos := v.pos
  bv := v.bv
  bn := v.bn
  arr := v.arr
  prev := v.prev }
def getRV : List (Ent TT) → Option RV
  | [_, _, .B rb 108 [.c (.v (.int _ off)), _, _, _, .c (.v (.int _ bits)), .c (.v (.int _ num)), _, .c (.w pk pkn), .c (.v (.int _ dis)), .c (.v (.int _ fed)), _, _, _],
      .B _ 198 [_, _, .c (.v (.int _ prev))], .B _ 190 [_, .c (.v (.int _ pos)), .c (.w bv bn), .r 5 512 arr]] =>
    some ⟨off.toNat, bits.toNat, num.toNat, pk, pkn, dis, fed.toNat, pos.toNat, bv, bn, arr, prev⟩
  | _ => none
/-- Within PullBits: nothing is left to be discarded. -/
structure plOK (x : RS) (v : RV) : Prop where
  l : rsL (x.put v)
  dis : v.dis = (x.P : Int) - 8 * v.off
  fed : v.fed ≤ 64
structure pulled (x : RS) (nb : Nat) (v : RV) : Prop where
  ok : rsOK (x.put v)
  num : nb ≤ v.num
structure dry (x : RS) (nb : Nat) (v : RV) : Prop where
  ok : rsOK (x.put v)
  num : v.num < nb
  all : x.P + v.num = 8 * x.bs.length
def c143 (G : Gl) (P : Nat) : Ctr TT where
  X := RS × Nat
  find a H := match a with
    | [.p 2 _ (.lit 0), .v (.int .u64 n)] => match getRS P H with
      | some x => some (x, n.toNat)
      | none => none
    | _ => none
  phi x := rsOK x.1 ∧ x.2 ≤ 56
  args x := [.p 2 x.1.rb (.lit 0), iv .u64 x.2]
  H x := x.1.H
  outs := [
    { Y := fun _ => RV, psi := fun x y => pulled x.1 x.2 y, res := fun x _ => .v .nilIface, H := fun x y => (x.1.put y).H },
    { Y := fun _ => RV, psi := fun x y => dry x.1 x.2 y, res := fun x _ => .v (errV G.U), H := fun x y => (x.1.put y).H }]
/-- Eight bytes from q on, as a number. -/
def wd8 (big : Bool) (bs : List Nat) (q : Nat) : Nat := numL (bitsOf big ((bs.drop q).take 8))
/-- After Flush and Buffered. -/
structure flOK (x : RS) (v : RV) : Prop where
  l : rsL (x.put v)
  dis : v.dis = (x.P : Int) - 8 * v.off
  fed : v.fed = v.num
  off : v.off = (x.P + 7) / 8
  pos : v.pos = v.off
  pkn : v.pkn = 0
noncomputable def a143 (x : RS) (nb : Nat) : Ann TT := fun r S => match r with
  | 3 => some {
    X := RV
    phi := fun v => plOK x v
    fr := fun v => []
    H := fun v => (x.put v).H3
    mu := fun v => 64 - v.num }
  | 5012 => match getRV S.H with
      | some s => some {
        X := RV × Nat
        phi := fun v => flOK x v.1 ∧ v.1.num = s.num ∧ (nb + 7) / 8 ≤ v.2 ∧ v.1.bn ≤ v.2 ∧ v.2 ≤ 512
        fr := fun v => [(7, .v .nilIface), (8, iv .i64 v.2)]
        H := fun v => (x.put v.1).H3
        mu := fun v => 0 }
      | none => none
  | 5019 => match getRV S.H with
      | some s => some {
        X := RV
        phi := fun v => plOK x v ∧ 0 < v.pkn ∧ v.num = s.num
        fr := fun v => []
        H := fun v => (x.put v).H3
        mu := fun v => 0 }
      | none => none
  | 5022 => match getRV S.H with
      | some s => some {
        X := Unit
        phi := fun _ => True
        fr := fun _ => [(10, iv .u64 (wd8 false x.bs ((x.P + s.num) / 8)))]
        H := fun _ => []
        mu := fun v => 0 }
      | none => none
  | 5026 => match getRV S.H with
      | some s => some {
        X := Unit
        phi := fun _ => True
        fr := fun _ => [(10, iv .u64 (wd8 x.big x.bs ((x.P + s.num) / 8)))]
        H := fun _ => []
        mu := fun v => 0 }
      | none => none
  | 5031 => match getRV S.H with
      | some s => some {
        X := Unit
        phi := fun _ => True
        fr := fun _ => [(9, iv .i64 (min ((64 - s.num) / 8) s.pkn))]
        H := fun _ => []
        mu := fun v => 0 }
      | none => none
  | 5041 => some {
        X := RV
        phi := fun v => plOK x v ∧ nb ≤ v.num
        fr := fun v => []
        H := fun v => (x.put v).H3
        mu := fun v => 0 }
  | 32 => match getRV S.H, S.get 9 with
      | some s, some (.v (.int _ n)) => some {
        X := Nat × Nat
        phi := fun y => y.1 ≤ n.toNat ∧ bkOK x.W y.2 (s.num + 8 * y.1)
        fr := fun y => [(215, iv .i64 y.1)]
        H := fun y => [(2, .B x.rb 108 (segR 3 4 x.sb x.bb s.off y.2 (s.num + 8 * y.1) x.big s.pk s.pkn s.dis s.fed))]
        mu := fun y => n.toNat - y.1 }
      | _, _ => none
  | _ => none
noncomputable def b143 (G : Gl) : Nat → Option (PT TT)
  | 80 => some (exPT fun P => loc [none] (c80 P).pt)
  | 164 => some (loc [none] c164.pt)
  | 212 => some (loc [none] c212.pt)
  | 213 => some (loc [none, none] c213.pt)
  | 214 => some (loc [none, none] (c214 G).pt)
  | _ => none
end Pc
/-
  PullBits: what its steps keep.
-/
set_option linter.unusedVariables false
set_option maxRecDepth 100000
open Go Go.Vg Go.Proofs
namespace Pc
theorem pl_enter {x : RS} (h : rsOK x) : plOK x ⟨x.off, x.bits, x.num, x.pk, x.pkn, x.dis + ((x.fed : Int) - x.num), x.fed, x.pos, x.bv, x.bn, x.arr, x.prev⟩ where
  l := ⟨h.l.bytes, h.l.len, h.l.bk, h.l.al, h.l.end_, h.l.off, h.l.pos, h.l.arr, h.l.pk, h.l.bv, h.l.cov⟩
  dis := by have := h.dis; dsimp only; omega
  fed := h.fed.2
theorem fl_mk {x : RS} {v : RV} (h : plOK x v) (hp : v.pkn = 0) {bv : Value} {bn : Nat} (hbn : bn = v.bn - ((x.P + 7) / 8 - v.pos)) (hv : vw x.bb v.arr x.bs bv bn ((x.P + 7) / 8)) {arr : List Int} (harr : arr = v.arr) {dis : Int} (hd : dis = (x.P : Int) - 8 * ((x.P + 7) / 8 : Nat)) :
    flOK x ⟨(x.P + 7) / 8, v.bits, v.num, .slice none 0 0, 0, dis, v.num, (x.P + 7) / 8, bv, bn, arr, -1⟩ where
  l := ⟨h.l.bytes, h.l.len, h.l.bk, h.l.al, h.l.end_, Nat.le_refl _, Nat.le_refl _, by subst harr; exact h.l.arr, vw_nil _ _ _ _, by subst harr; exact hv, by
    have h1 : ((x.P + v.num) / 8) + v.pkn ≤ v.pos + v.bn ∨ (v.pkn = 0 ∧ (x.P + v.num) / 8 ≤ (x.P + 7) / 8) := h.l.cov
    have h2 : v.pos ≤ v.off := h.l.pos
    have h3 : v.off ≤ (x.P + 7) / 8 := h.l.off
    show ((x.P + v.num) / 8) + 0 ≤ (x.P + 7) / 8 + bn ∨ ((0 : Nat) = 0 ∧ (x.P + v.num) / 8 ≤ (x.P + 7) / 8)
    omega⟩
  dis := hd
  fed := rfl
  off := rfl
  pos := rfl
  pkn := rfl
/-- How many bytes are at hand already. -/
theorem fl_skip {x : RS} {v : RV} (h : flOK x v) : (x.P + v.num) / 8 = v.off + v.num / 8 ∧ v.off + v.num / 8 ≤ x.bs.length ∧ v.num / 8 ≤ v.bn := by
  have h1 : ((x.P + v.num) / 8) + v.pkn ≤ v.pos + v.bn ∨ (v.pkn = 0 ∧ (x.P + v.num) / 8 ≤ (x.P + 7) / 8) := h.l.cov
  have h2 : (x.P + v.num) % 8 = 0 := h.l.al
  have h3 : x.P + v.num ≤ 8 * x.bs.length := h.l.end_
  have h4 := h.off
  have h5 := h.pos
  have h6 := h.pkn
  omega
theorem pl_peek {x : RS} {v : RV} (h : flOK x v) {pn : Nat} (hl : v.num / 8 ≤ pn) {y : Y214} (ha : y.arr.length = 512) (hp : vw x.bb y.arr x.bs y.pv pn v.off) (hv : vw x.bb y.arr x.bs y.bv y.bn v.off) (hm : pn ≤ y.bn) :
    plOK x ⟨v.off, v.bits, v.num, sliceVal y.pv (v.num / 8) pn 1, pn - v.num / 8, v.dis, v.fed, v.off, y.bv, y.bn, y.arr, -1⟩ where
  l := ⟨h.l.bytes, h.l.len, h.l.bk, h.l.al, h.l.end_, h.l.off, Nat.le_refl _, ha, by
    have h1 := (fl_skip h).1
    exact vw_at (vw_sub hp hl (Nat.le_refl _)) h1.symm, hv, by
    have h1 := (fl_skip h).1
    show ((x.P + v.num) / 8) + (pn - v.num / 8) ≤ v.off + y.bn ∨ _
    omega⟩
  dis := h.dis
  fed := by have := h.fed; have h0 : v.num ≤ 64 := h.l.bk.n; dsimp only; omega
theorem pulled_mk {x : RS} {v : RV} {nb : Nat} (h : plOK x v) (hn : nb ≤ v.num) : pulled x nb ⟨v.off, v.bits, v.num, v.pk, v.pkn, v.dis, v.num, v.pos, v.bv, v.bn, v.arr, v.prev⟩ where
  ok := ⟨⟨h.l.bytes, h.l.len, h.l.bk, h.l.al, h.l.end_, h.l.off, h.l.pos, h.l.arr, h.l.pk, h.l.bv, h.l.cov⟩, by
    have := h.dis
    show v.dis = (x.P : Int) - 8 * v.off - ((v.num : Int) - v.num)
    omega, Nat.le_refl _, h.l.bk.n⟩
  num := hn
theorem dry_mk {x : RS} {v : RV} {nb : Nat} (h : plOK x v) (hf : v.fed = v.num) (hn : v.num < nb) (ha : x.P + v.num = 8 * x.bs.length) : dry x nb v where
  ok := ⟨h.l, by
    have := h.dis
    show v.dis = (x.P : Int) - 8 * v.off - ((v.fed : Int) - v.num)
    omega, by show v.num ≤ v.fed; omega, h.fed⟩
  num := hn
  all := ha
/-- More bits at hand: n bytes. -/
theorem pl_more {x : RS} {v : RV} (h : plOK x v) {n bits num : Nat} (hn : n ≤ v.pkn) (hp : 0 < v.pkn) (hbk : bkOK x.W bits num) (hnum : num = v.num + 8 * n) :
    plOK x ⟨v.off, bits, num, sliceVal v.pk n v.pkn 1, v.pkn - n, v.dis, v.fed, v.pos, v.bv, v.bn, v.arr, v.prev⟩ where
  l := by
    have al : (x.P + v.num) % 8 = 0 := h.l.al
    have cov : ((x.P + v.num) / 8) + v.pkn ≤ v.pos + v.bn ∨ (v.pkn = 0 ∧ (x.P + v.num) / 8 ≤ (x.P + 7) / 8) := h.l.cov
    have pk : vw x.bb v.arr x.bs v.pk v.pkn ((x.P + v.num) / 8) := h.l.pk
    have he := vw_end pk
    have en : x.P + v.num ≤ 8 * x.bs.length := h.l.end_
    refine ⟨h.l.bytes, h.l.len, hbk, ?_, ?_, h.l.off, h.l.pos, h.l.arr, ?_, h.l.bv, ?_⟩
    · show (x.P + num) % 8 = 0
      omega
    · show x.P + num ≤ 8 * x.bs.length
      omega
    · exact vw_at (vw_sub pk hn (Nat.le_refl _)) (show (x.P + v.num) / 8 + n = (x.P + num) / 8 by omega)
    · show ((x.P + num) / 8) + (v.pkn - n) ≤ v.pos + v.bn ∨ _
      omega
  dis := h.dis
  fed := h.fed
theorem ceil8 : ∀ n : Fin 57, IntKind.u64.wrap ((n.val : Int) + bitI BinOp.and IntKind.u64 (IntKind.u64.wrap (0 - (n.val : Int))) 7) = ((8 * ((n.val + 7) / 8) : Nat) : Int) := by decide +kernel
/-- The stream from the bits at hand on. -/
theorem W_at {x : RS} {v : RV} (h : plOK x v) : x.W / 2 ^ v.num = numL (bitsOf x.big x.bs) / 2 ^ (8 * ((x.P + v.num) / 8)) := by
  have al : (x.P + v.num) % 8 = 0 := h.l.al
  unfold RS.W
  rw [Nat.div_div_eq_div_mul, ← Nat.pow_add]
  congr 2; omega
end Pc
/-
  PullBits: eight bytes at once.
-/
set_option linter.unusedVariables false
set_option maxRecDepth 100000
open Go Go.Vg Go.Proofs
namespace Pc
theorem vw_get {b : Nat} {arr : List Int} {bs : List Nat} {v : Value} {n q : Nat} (h : vw b arr bs v n q) (hn : 0 < n) : ∃ lo cap, v = .slice (some ⟨b, 3 + lo * 1, none⟩) n cap ∧ lo + n ≤ 512 ∧ ∀ i z, i < n → arr[lo + i]? = some z → ∃ c, bs[q + i]? = some c ∧ z = (c : Int) := by
  rcases h with ⟨_, h⟩ | ⟨lo, cap, h1, h2, h3, h4, h5⟩
  · omega
  · refine ⟨lo, cap, h1, by omega, fun i z hi hz => ?_⟩
    have e1 : ((arr.drop lo).take n)[i]? = some z := by rw [List.getElem?_take_of_lt hi, List.getElem?_drop]; exact hz
    rw [h5] at e1
    obtain ⟨c, hc, rfl⟩ := ints_get e1
    rw [List.getElem?_take_of_lt hi, List.getElem?_drop] at hc
    exact ⟨c, hc, rfl⟩
theorem w8_step {a c n : Nat} (ha : a < 2 ^ n) (hc : c < 256) (hn : n ≤ 56) : bitI BinOp.or IntKind.u64 (a : Int) (shlI IntKind.u64 (IntKind.u64.wrap (c : Int)) (n : Int)) = ((a + 2 ^ n * c : Nat) : Int) := by
  have h1 : (2 : Nat) ^ n ≤ 2 ^ 56 := Nat.pow_le_pow_right (by decide) hn
  have h2 : c * 2 ^ n ≤ 255 * 2 ^ n := Nat.mul_le_mul_right _ (by omega)
  rw [wrId rfl (by simp only [IntKind.bits]; omega), shlN rfl, show min n IntKind.u64.bits = n by simp only [IntKind.bits]; omega, Nat.mod_eq_of_lt (by simp only [IntKind.bits]; omega), orN rfl (by simp only [IntKind.bits]; omega) (by simp only [IntKind.bits]; omega), or_add ha]
theorem byte_cons {c : Nat} (hc : c < 256) (r : List Nat) : numL (bitsOf false (c :: r)) = c + 256 * numL (bitsOf false r) := by
  rw [bitsOf_cons, numL_app, byteBits_len, byte_num ⟨c, hc⟩]
theorem word8 {c0 c1 c2 c3 c4 c5 c6 c7 : Nat} (h0 : c0 < 256) (h1 : c1 < 256) (h2 : c2 < 256) (h3 : c3 < 256) (h4 : c4 < 256) (h5 : c5 < 256) (h6 : c6 < 256) (h7 : c7 < 256) :
    (bitI BinOp.or IntKind.u64 (bitI BinOp.or IntKind.u64 (bitI BinOp.or IntKind.u64 (bitI BinOp.or IntKind.u64 (bitI BinOp.or IntKind.u64 (bitI BinOp.or IntKind.u64 (bitI BinOp.or IntKind.u64 (IntKind.wrap IntKind.u64 (c0 : Int)) (shlI IntKind.u64 (IntKind.wrap IntKind.u64 (c1 : Int)) (8 : Int))) (shlI IntKind.u64 (IntKind.wrap IntKind.u64 (c2 : Int)) (16 : Int))) (shlI IntKind.u64 (IntKind.wrap IntKind.u64 (c3 : Int)) (24 : Int))) (shlI IntKind.u64 (IntKind.wrap IntKind.u64 (c4 : Int)) (32 : Int))) (shlI IntKind.u64 (IntKind.wrap IntKind.u64 (c5 : Int)) (40 : Int))) (shlI IntKind.u64 (IntKind.wrap IntKind.u64 (c6 : Int)) (48 : Int))) (shlI IntKind.u64 (IntKind.wrap IntKind.u64 (c7 : Int)) (56 : Int))) = ((numL (bitsOf false [c0, c1, c2, c3, c4, c5, c6, c7]) : Nat) : Int) := by
  rw [wrId (n := c0) rfl (by simp only [IntKind.bits]; omega), show (8 : Int) = ((8 : Nat) : Int) from rfl, w8_step (by omega) h1 (by omega), show (16 : Int) = ((16 : Nat) : Int) from rfl, w8_step (by omega) h2 (by omega), show (24 : Int) = ((24 : Nat) : Int) from rfl, w8_step (by omega) h3 (by omega),
    show (32 : Int) = ((32 : Nat) : Int) from rfl, w8_step (by omega) h4 (by omega), show (40 : Int) = ((40 : Nat) : Int) from rfl, w8_step (by omega) h5 (by omega), show (48 : Int) = ((48 : Nat) : Int) from rfl, w8_step (by omega) h6 (by omega), show (56 : Int) = ((56 : Nat) : Int) from rfl, w8_step (by omega) h7 (by omega)]
  rw [byte_cons h0, byte_cons h1, byte_cons h2, byte_cons h3, byte_cons h4, byte_cons h5, byte_cons h6, byte_cons h7]
  have : numL (bitsOf false []) = 0 := rfl
  rw [this]
  omega
theorem drop_at' {α : Type} {l : List α} {i : Nat} {p : α} (h : l[i]? = some p) : l.drop i = p :: l.drop (i + 1) := by
  obtain ⟨h1, rfl⟩ := List.getElem?_eq_some_iff.1 h
  exact (List.getElem_cons_drop h1).symm
theorem eight {bs : List Nat} {q c0 c1 c2 c3 c4 c5 c6 c7 : Nat} (h0 : bs[q + 0]? = some c0) (h1 : bs[q + 1]? = some c1) (h2 : bs[q + 2]? = some c2) (h3 : bs[q + 3]? = some c3) (h4 : bs[q + 4]? = some c4) (h5 : bs[q + 5]? = some c5) (h6 : bs[q + 6]? = some c6) (h7 : bs[q + 7]? = some c7) :
    (bs.drop q).take 8 = [c0, c1, c2, c3, c4, c5, c6, c7] := by
  rw [drop_at' (i := q) h0, drop_at' h1, drop_at' h2, drop_at' h3, drop_at' h4, drop_at' h5, drop_at' h6, drop_at' h7]
  rfl
theorem bits_get (big : Bool) : ∀ (l : List Nat) (i j : Nat), i < l.length → j < 8 → (bitsOf big l)[8 * i + j]? = some (bt (l.getD i 0) (if big = true then 7 - j else j))
  | [], i, j, h, _ => by simp at h
  | c :: r, 0, j, h, hj => by
    rw [bitsOf_cons, List.getElem?_append_left (by rw [byteBits_len]; omega)]
    simp only [byteBits, List.getElem?_map, Nat.mul_zero, Nat.zero_add, List.getElem?_range hj, Option.map_some, List.getD_cons_zero]
  | c :: r, i + 1, j, h, hj => by
    rw [bitsOf_cons, List.getElem?_append_right (by rw [byteBits_len]; omega), byteBits_len, show 8 * (i + 1) + j - 8 = 8 * i + j by omega, bits_get big r i j (by simpa using h) hj]
    simp
theorem bt_and (a b k : Nat) : bt (a &&& b) k = bt a k * bt b k := by
  rw [bt_test, bt_test, bt_test, Nat.testBit_and]
  cases a.testBit k <;> cases b.testBit k <;> rfl
/-- Where a bit comes from: neighbours of s bits change places. -/
def sw (s k : Nat) : Nat := if k / s % 2 = 0 then k + s else k - s
def stage (u hi lo s : Nat) : Nat := (u &&& hi) / 2 ^ s ||| (u &&& lo) * 2 ^ s % 2 ^ 64
theorem stage_run {u hi lo s : Nat} (hu : u < 2 ^ 64) (hh : hi < 2 ^ 64) (hl : lo < 2 ^ 64) (hs : s < 64) : bitI BinOp.or IntKind.u64 (shrI IntKind.u64 (bitI BinOp.and IntKind.u64 (u : Int) (hi : Int)) (s : Int)) (shlI IntKind.u64 (bitI BinOp.and IntKind.u64 (u : Int) (lo : Int)) (s : Int)) = ((stage u hi lo s : Nat) : Int) := by
  have h1 : u &&& hi < 2 ^ 64 := Nat.lt_of_le_of_lt Nat.and_le_left hu
  rw [andN rfl hu hh, andN rfl hu hl, shrN, shlN rfl, show min s IntKind.u64.bits = s by simp only [IntKind.bits]; omega, orN rfl]
  · rfl
  · exact Nat.lt_of_le_of_lt (Nat.div_le_self _ _) h1
  · exact Nat.mod_lt _ (by decide)
theorem stage_lt {u hi lo s : Nat} (hu : u < 2 ^ 64) : stage u hi lo s < 2 ^ 64 :=
  Nat.or_lt_two_pow (Nat.lt_of_le_of_lt (Nat.div_le_self _ _) (Nat.lt_of_le_of_lt Nat.and_le_left hu)) (Nat.mod_lt _ (by decide))
theorem stage_bt {u hi lo s : Nat} (hu : u < 2 ^ 64) (hm : ∀ k : Fin 64, (k.val / s % 2 = 0 → k.val + s < 64 ∧ bt hi (k.val + s) = 1 ∧ (s ≤ k.val → bt lo (k.val - s) = 0)) ∧ (k.val / s % 2 ≠ 0 → bt hi (k.val + s) = 0 ∧ s ≤ k.val ∧ bt lo (k.val - s) = 1)) {k : Nat} (hk : k < 64) :
    bt (stage u hi lo s) k = bt u (sw s k) := by
  obtain ⟨h1, h2⟩ := hm ⟨k, hk⟩
  dsimp only at h1 h2
  have hb := bt_lt u (k + s)
  unfold stage sw
  rw [bt_or, bt_div, bt_modp, if_pos hk, bt_shl, bt_and, bt_and, Nat.add_comm s k]
  by_cases h : k / s % 2 = 0
  · obtain ⟨h3, h4, h5⟩ := h1 h
    rw [if_pos h, h4]
    by_cases h6 : s ≤ k
    · rw [if_pos h6, h5 h6]; omega
    · rw [if_neg h6]; omega
  · obtain ⟨h3, h4, h5⟩ := h2 h
    rw [if_neg h, h3, if_pos h4, h5]; omega
theorem sw_all : ∀ k : Fin 64, sw 1 (sw 2 (sw 4 k.val)) = 8 * (k.val / 8) + (7 - k.val % 8) ∧ sw 4 k.val < 64 ∧ sw 2 (sw 4 k.val) < 64 := by decide +kernel
theorem m1 : ∀ k : Fin 64, (k.val / 1 % 2 = 0 → k.val + 1 < 64 ∧ bt 12297829382473034410 (k.val + 1) = 1 ∧ (1 ≤ k.val → bt 6148914691236517205 (k.val - 1) = 0)) ∧ (k.val / 1 % 2 ≠ 0 → bt 12297829382473034410 (k.val + 1) = 0 ∧ 1 ≤ k.val ∧ bt 6148914691236517205 (k.val - 1) = 1) := by decide +kernel
theorem m2 : ∀ k : Fin 64, (k.val / 2 % 2 = 0 → k.val + 2 < 64 ∧ bt 14757395258967641292 (k.val + 2) = 1 ∧ (2 ≤ k.val → bt 3689348814741910323 (k.val - 2) = 0)) ∧ (k.val / 2 % 2 ≠ 0 → bt 14757395258967641292 (k.val + 2) = 0 ∧ 2 ≤ k.val ∧ bt 3689348814741910323 (k.val - 2) = 1) := by decide +kernel
theorem m4 : ∀ k : Fin 64, (k.val / 4 % 2 = 0 → k.val + 4 < 64 ∧ bt 17361641481138401520 (k.val + 4) = 1 ∧ (4 ≤ k.val → bt 1085102592571150095 (k.val - 4) = 0)) ∧ (k.val / 4 % 2 ≠ 0 → bt 17361641481138401520 (k.val + 4) = 0 ∧ 4 ≤ k.val ∧ bt 1085102592571150095 (k.val - 4) = 1) := by decide +kernel
theorem swap8 {l : List Nat} (hl : l.length = 8) : stage (stage (stage (numL (bitsOf false l)) 12297829382473034410 6148914691236517205 1) 14757395258967641292 3689348814741910323 2) 17361641481138401520 1085102592571150095 4 = numL (bitsOf true l) := by
  have hu : numL (bitsOf false l) < 2 ^ 64 := by have := stream_lt false l; rwa [hl] at this
  have hv : numL (bitsOf true l) < 2 ^ 64 := by have := stream_lt true l; rwa [hl] at this
  refine eq_bt (n := 64) (stage_lt (stage_lt (stage_lt hu))) hv fun k hk => ?_
  obtain ⟨e1, e2, e3⟩ := sw_all ⟨k, hk⟩
  dsimp only at e1 e2 e3
  rw [stage_bt (stage_lt (stage_lt hu)) m4 hk, stage_bt (stage_lt hu) m2 e2, stage_bt hu m1 e3, e1]
  rw [numL_bt (bitsOf_lt _ _) (bits_get false l (k / 8) (7 - k % 8) (by omega) (by omega))]
  have := numL_bt (bitsOf_lt true l) (bits_get true l (k / 8) (k % 8) (by omega) (by omega))
  rw [show 8 * (k / 8) + k % 8 = k by omega] at this
  rw [this]
  simp
end Pc
/-
  Contracts of the reader's small methods.
-/
set_option linter.unusedVariables false
set_option maxRecDepth 100000
open Go Go.Vg Go.Proofs
namespace Pc
/-- n bits were taken. -/
def RS.adv (x : RS) (v : RV) (n : Nat) : RS := { x.put v with P := x.P + n }
structure took (x : RS) (n : Nat) (v : RV) : Prop where
  ok : rsOK (x.adv v n)
  all : x.P + n ≤ 8 * x.bs.length
structure lacks (x : RS) (n : Nat) (v : RV) : Prop where
  ok : rsOK (x.put v)
  all : 8 * x.bs.length < x.P + n
/-- The same reader, within another frame. -/
theorem rs_m {x y : RS} (h : rsOK x) (e : y = { x with m := y.m, rel := y.rel }) : rsOK y := by
  rw [e]
  exact ⟨⟨h.l.bytes, h.l.len, h.l.bk, h.l.al, h.l.end_, h.l.off, h.l.pos, h.l.arr, h.l.pk, h.l.bv, h.l.cov⟩, h.dis, h.fed⟩
theorem rs_take {x : RS} {v : RV} (h : rsOK (x.put v)) {n : Nat} (hn : n ≤ v.num) : took x n { v with bits := v.bits / 2 ^ n, num := v.num - n } where
  ok := by
    have al : (x.P + v.num) % 8 = 0 := h.l.al
    have en : x.P + v.num ≤ 8 * x.bs.length := h.l.end_
    have off : v.off ≤ (x.P + 7) / 8 := h.l.off
    have pk : vw x.bb v.arr x.bs v.pk v.pkn ((x.P + v.num) / 8) := h.l.pk
    have cov : ((x.P + v.num) / 8) + v.pkn ≤ v.pos + v.bn ∨ (v.pkn = 0 ∧ (x.P + v.num) / 8 ≤ (x.P + 7) / 8) := h.l.cov
    have dis : v.dis = (x.P : Int) - 8 * v.off - ((v.fed : Int) - v.num) := h.dis
    have fed : v.num ≤ v.fed ∧ v.fed ≤ 64 := h.fed
    refine ⟨⟨h.l.bytes, h.l.len, ?_, ?_, ?_, ?_, h.l.pos, h.l.arr, ?_, h.l.bv, ?_⟩, ?_, ?_⟩
    · have hb : bkOK x.W v.bits v.num := h.l.bk
      have := bk_less hb hn
      have e : x.W / 2 ^ n = (x.adv { v with bits := v.bits / 2 ^ n, num := v.num - n } n).W := by
        unfold RS.W
        rw [Nat.div_div_eq_div_mul, ← Nat.pow_add]; rfl
      rw [e] at this
      exact this
    · show (x.P + n + (v.num - n)) % 8 = 0
      omega
    · show x.P + n + (v.num - n) ≤ 8 * x.bs.length
      omega
    · show v.off ≤ (x.P + n + 7) / 8
      omega
    · exact vw_at pk (show (x.P + v.num) / 8 = (x.P + n + (v.num - n)) / 8 by omega)
    · show ((x.P + n + (v.num - n)) / 8) + v.pkn ≤ v.pos + v.bn ∨ (v.pkn = 0 ∧ (x.P + n + (v.num - n)) / 8 ≤ (x.P + n + 7) / 8)
      omega
    · show v.dis = ((x.P + n : Nat) : Int) - 8 * v.off - ((v.fed : Int) - ((v.num - n : Nat) : Int))
      omega
    · show v.num - n ≤ v.fed ∧ v.fed ≤ 64
      omega
  all := by have en : x.P + v.num ≤ 8 * x.bs.length := h.l.end_; omega
theorem mask {b n : Nat} (hb : b < 2 ^ 64) (hn : n ≤ 56) : bitI BinOp.and IntKind.u64 (b : Int) (IntKind.wrap IntKind.u64 (shlI IntKind.u64 (1 : Int) (n : Int) - (1 : Int))) = ((b % 2 ^ n : Nat) : Int) := by
  have h1 : (2 : Nat) ^ n ≤ 2 ^ 56 := Nat.pow_le_pow_right (by decide) hn
  have h0 : 0 < (2 : Nat) ^ n := Nat.pow_pos (by decide)
  have e1 : shlI IntKind.u64 (1 : Int) (n : Int) = ((2 ^ n : Nat) : Int) := by
    rw [show (1 : Int) = ((1 : Nat) : Int) from rfl, shlN rfl, show min n IntKind.u64.bits = n by simp only [IntKind.bits]; omega, Nat.one_mul, Nat.mod_eq_of_lt (by simp only [IntKind.bits]; omega)]
  have e2 : ((2 ^ n : Nat) : Int) - 1 = ((2 ^ n - 1 : Nat) : Int) := by omega
  rw [e1, e2, wrId rfl (by simp only [IntKind.bits]; omega), andN rfl hb (by simp only [IntKind.bits]; omega), Nat.and_two_pow_sub_one_eq_mod]
def errPan (e : Nat) : SV TT := .i 264 (.a [.c (.p 5 e (.lit 0))])
def errEnt (G : Gl) (e : Nat) : Ent TT := .B e 151 [.c (.v (errV G.U))]
/-! ReadBits -/
def c103 (G : Gl) (P : Nat) : Ctr TT where
  X := RS × Nat
  find a H := match a with
    | [.p 2 _ (.lit 0), .v (.int .u64 n)] => match getRS P H with
      | some x => some (x, n.toNat)
      | none => none
    | _ => none
  phi x := rsOK x.1 ∧ x.2 ≤ 56
  args x := [.p 2 x.1.rb (.lit 0), iv .u64 x.2]
  H x := x.1.H
  outs := [{ Y := fun _ => RV, psi := fun x y => took x.1 x.2 y, res := fun x _ => iv .u64 (x.1.W % 2 ^ x.2), H := fun x y => (x.1.put y).H }]
  pans := [{ Y := fun _ => RV × Nat, psi := fun x y => lacks x.1 x.2 y.1, res := fun x y => errPan y.2, H := fun x y => (x.1.put y.1).H ++ [errEnt G y.2] }]
/-! ReadPads -/
def c107 (P : Nat) : Ctr TT where
  X := RS
  find a H := match a with
    | [.p 2 _ (.lit 0)] => getRS P H
    | _ => none
  phi x := rsOK x
  args x := [.p 2 x.rb (.lit 0)]
  H x := x.H
  outs := [{ Y := fun _ => RV, psi := fun x y => took x ((8 * x.bs.length - x.P) % 8) y, res := fun x _ => iv .u64 (x.W % 2 ^ ((8 * x.bs.length - x.P) % 8)), H := fun x y => (x.put y).H }]
/-! BitsRead -/
def c109 (P : Nat) : Ctr TT where
  X := RS
  find a H := match a with
    | [.p 2 _ (.lit 0)] => getRS P H
    | _ => none
  phi x := rsW x
  args x := [.p 2 x.rb (.lit 0)]
  H x := x.H
  outs := [{ Y := fun _ => Unit, psi := fun x y => True, res := fun x _ => iv .i64 x.P, H := fun x y => x.H }]
noncomputable def b103 (G : Gl) : Nat → Option (PT TT)
  | 143 => some (exPT fun P => loc [none, none] (c143 G P).pt)
  | _ => none
end Pc
/-
  The contract of ReadSymbol.
-/
set_option linter.unusedVariables false
set_option maxRecDepth 100000
open Go Go.Vg Go.Proofs
namespace Pc
theorem rev_mono {a b : Nat} (h : ∀ k, bt a k ≤ bt b k) : ∀ n, rev a n ≤ rev b n
  | 0 => Nat.le_refl _
  | n + 1 => by
    have := rev_mono h n
    have := h n
    simp only [rev]; omega
/-- A word with fewer bits set has a code that is not longer. -/
theorem cl_mono {lens : List Nat} (hg : Good lens) {a b : Nat} (h : ∀ k, bt a k ≤ bt b k) : cl lens a ≤ cl lens b := by
  obtain ⟨i1, i2⟩ := cd_hit hg a
  obtain ⟨j1, j2⟩ := cd_hit hg b
  have hi := (hit_iff hg i1).1 i2
  have hj := (hit_iff hg j1).1 j2
  have hr := rev_mono h 20
  unfold cl
  rcases Nat.lt_or_ge (lens.getD (cd lens b) 0) (lens.getD (cd lens a) 0) with h1 | h1
  · exfalso
    have hs := hS_succ (l := lens) (n := lens.getD (cd lens b) 0) j1
    rw [if_pos rfl] at hs
    have hm := hS_mono lens (n := lens.getD (cd lens b) 0) (i := cd lens b + 1) (n' := lens.getD (cd lens a) 0) (i' := cd lens a) (.inl h1)
    omega
  · exact h1
/-- A decoder's data. -/
structure DC where
  db : Nat
  cv : Value
  ch : List Nat
  lv : Value
  lk : List Sl
  cm : Nat
  lm : Nat
  cb : Nat
  mb : Nat
  ns : Nat
def segD (d : DC) : List (Seg TT) := [.c (.ro 43 d.cv (ints d.ch)), .c (.ro 42 d.lv d.lk), .c (iv .u32 d.cm), .c (iv .u32 d.lm), .c (iv .u32 d.cb), .c (iv .u32 d.mb), .c (iv .u32 d.ns)]
structure decOK (rel : Rel TT) (lens : List Nat) (d : DC) : Prop where
  good : Good lens
  cb : 1 ≤ d.cb ∧ d.cb ≤ 9
  cm : d.cm = 2 ^ d.cb - 1
  len : d.ch.length = 2 ^ d.cb
  mb : 1 ≤ d.mb ∧ ∀ v, d.mb ≤ cl lens v
  short : ∀ v, cl lens v ≤ d.cb → d.ch[v % 2 ^ d.cb]? = some (cd lens v * 32 + cl lens v)
  long : ∀ v, d.cb < cl lens v → ∃ k sl tb lb, d.ch[v % 2 ^ d.cb]? = some (k * 32 + (d.cb + 1)) ∧ k < 64 ∧ d.lk[k]? = some sl ∧ isRo rel 43 sl.val (ints tb) ∧ sl.n = tb.length ∧ lb ≤ 11 ∧ d.lm = 2 ^ lb - 1 ∧ tb.length = 2 ^ lb ∧ tb[v / 2 ^ d.cb % 2 ^ lb]? = some (cd lens v * 32 + cl lens v)
def getDC : Ent TT → Option DC
  | .B db 201 [.c (.ro 43 cv ch), .c (.ro 42 lv lk), .c (.v (.int _ cm)), .c (.v (.int _ lm)), .c (.v (.int _ cb)), .c (.v (.int _ mb)), .c (.v (.int _ ns))] => some ⟨db, cv, nats ch, lv, lk, cm.toNat, lm.toNat, cb.toNat, mb.toNat, ns.toNat⟩
  | _ => none
def c105 (G : Gl) (P : Nat) (lens : List Nat) : Ctr TT where
  X := RS × DC
  find a H := match a, H with
    | [.p 2 _ (.lit 0), .p 5 _ (.lit 0)], [a0, a1, a2, a3, a4, a5] => match getRS P [a0, a1, a2, a3, a4], getDC a5 with
      | some x, some d => some (x, d)
      | _, _ => none
    | _, _ => none
  phi x := rsOK x.1 ∧ decOK x.1.rel lens x.2
  args x := [.p 2 x.1.rb (.lit 0), .p 5 x.2.db (.lit 0)]
  H x := x.1.H ++ [.B x.2.db 201 (segD x.2)]
  outs := [{ Y := fun _ => RV, psi := fun x y => took x.1 (cl lens x.1.W) y, res := fun x _ => iv .u64 (cd lens x.1.W), H := fun x y => (x.1.put y).H ++ [.B x.2.db 201 (segD x.2)] }]
  pans := [{ Y := fun _ => RV × Nat, psi := fun x y => lacks x.1 (cl lens x.1.W) y.1, res := fun x y => .i 264 (.a [.c (.p 6 y.2 (.lit 0))]), H := fun x y => (x.1.put y.1).H ++ [.B x.2.db 201 (segD x.2), errEnt G y.2] }]
noncomputable def a105 (x : RS) (lens : List Nat) : Ann TT := fun r S => match r with
  | 4 => some {
    X := RV × Nat
    phi := fun y => rsOK (x.put y.1) ∧ 1 ≤ y.2 ∧ y.2 ≤ cl lens x.W
    fr := fun y => [(5, iv .u64 y.2)]
    H := fun y => (x.put y.1).H3
    mu := fun y => 21 - y.2 }
  | _ => none
end Pc
/-
  The tables of a decoder, in plain Lean: how they are filled.
-/
set_option linter.unusedVariables false
namespace Pc
/-- The value of a code, its first bit the lowest. -/
def cval (lens : List Nat) (i : Nat) : Nat := rev (nx lens (lens.getD i 0) i) (lens.getD i 0)
theorem cval_lt (lens : List Nat) (i : Nat) : cval lens i < 2 ^ lens.getD i 0 := rev_lt _ _
theorem cval_hit (lens : List Nat) (i : Nat) : hit lens (cval lens i) i := by
  unfold hit
  exact Nat.mod_eq_of_lt (cval_lt lens i)
theorem cval_cd {lens : List Nat} (hg : Good lens) {i : Nat} (hi : i < lens.length) : cd lens (cval lens i) = i := cd_eq hg hi (cval_hit lens i)
theorem cval_cl {lens : List Nat} (hg : Good lens) {i : Nat} (hi : i < lens.length) : cl lens (cval lens i) = lens.getD i 0 := by unfold cl; rw [cval_cd hg hi]
/-- A row of which each p-th place, from val on and ahead of j, has been filled; off is where the row begins. -/
def fillAt (C : List Nat) (off p val ch j : Nat) : List Nat := C.mapIdx fun q x => if off ≤ q ∧ q < off + j ∧ (q - off) % p = val then ch else x
theorem fillAt_len (C : List Nat) (off p val ch j : Nat) : (fillAt C off p val ch j).length = C.length := by simp [fillAt]
theorem fillAt_get (C : List Nat) (off p val ch j q : Nat) : (fillAt C off p val ch j)[q]? = (C[q]?).map fun x => if off ≤ q ∧ q < off + j ∧ (q - off) % p = val then ch else x := by
  simp [fillAt, List.getElem?_mapIdx]
theorem fillAt_zero {C : List Nat} {off p val ch : Nat} (hp : val < p) : fillAt C off p val ch val = C := by
  refine List.ext_getElem? fun q => ?_
  rw [fillAt_get]
  cases h : C[q]? with
  | none => rfl
  | some x =>
    have : ¬ (off ≤ q ∧ q < off + val ∧ (q - off) % p = val) := fun ⟨h1, h2, h3⟩ => by
      rw [Nat.mod_eq_of_lt (by omega)] at h3; omega
    simp only [Option.map_some, if_neg this]
theorem fillAt_step {C : List Nat} {off p val ch j : Nat} (hp : val < p) (hj : j % p = val) (hl : off + j < C.length) : (fillAt C off p val ch j).set (off + j) ch = fillAt C off p val ch (j + p) := by
  refine List.ext_getElem? fun q => ?_
  rw [List.getElem?_set, fillAt_get, fillAt_get, fillAt_len]
  by_cases h : off + j = q
  · subst h
    rw [if_pos rfl, if_pos hl, List.getElem?_eq_getElem hl, Option.map_some, if_pos ⟨by omega, by omega, by rw [Nat.add_sub_cancel_left]; exact hj⟩]
  · rw [if_neg h]
    congr 1
    funext x
    by_cases h1 : off ≤ q ∧ q < off + j ∧ (q - off) % p = val
    · rw [if_pos h1, if_pos ⟨h1.1, by omega, h1.2.2⟩]
    · rw [if_neg h1, if_neg]
      rintro ⟨h2, h3, h4⟩
      refine h1 ⟨h2, ?_, h4⟩
      refine Nat.lt_of_not_le fun h5 => ?_
      obtain ⟨d, hd⟩ : ∃ d, q - off = j + d := ⟨q - off - j, by omega⟩
      have hd0 : d < p ∧ 0 < d := by omega
      rw [hd] at h4
      have h6 : (j + d) % p = (j % p + d) % p := (Nat.mod_add_mod j p d).symm
      rw [h6, hj] at h4
      by_cases h7 : val + d < p
      · rw [Nat.mod_eq_of_lt h7] at h4; omega
      · rw [Nat.mod_eq_sub_mod (by omega), Nat.mod_eq_of_lt (by omega)] at h4; omega
theorem mod_step {a d p : Nat} (h1 : d < p) (h2 : 0 < d) (h3 : (a + d) % p = a % p) : False := by
  have h6 : (a + d) % p = (a % p + d) % p := (Nat.mod_add_mod a p d).symm
  have hv := Nat.mod_lt a (show p > 0 by omega)
  rw [h6] at h3
  generalize a % p = v at *
  by_cases h7 : v + d < p
  · rw [Nat.mod_eq_of_lt h7] at h3; omega
  · rw [Nat.mod_eq_sub_mod (by omega), Nat.mod_eq_of_lt (by omega)] at h3; omega
theorem fillAt_stop {C : List Nat} {off p val ch j m : Nat} (h1 : m ≤ j) (h2 : j < m + p) (hj : j % p = val) : fillAt C off p val ch j = fillAt C off p val ch m := by
  refine List.ext_getElem? fun q => ?_
  rw [fillAt_get, fillAt_get]
  congr 1
  funext x
  by_cases h : off ≤ q ∧ q < off + m ∧ (q - off) % p = val
  · rw [if_pos h, if_pos ⟨h.1, by omega, h.2.2⟩]
  · rw [if_neg h, if_neg]
    rintro ⟨g1, g2, g3⟩
    have g4 : ¬ q < off + m := fun g => h ⟨g1, g, g3⟩
    obtain ⟨d, hd⟩ : ∃ d, j = (q - off) + d := ⟨j - (q - off), by omega⟩
    exact mod_step (a := q - off) (d := d) (p := p) (by omega) (by omega) (by rw [← hd, hj, g3])
/-- The places of the first table that lead to further ones, as the codes ahead of i ask. -/
structure linkOK (lens : List Nat) (cb i : Nat) (L : List Nat) (n : Nat) : Prop where
  len : L.length = 2 ^ cb
  le : n ≤ i
  val : ∀ q, L.getD q 0 ≠ 0 → ∃ k, k < n ∧ L.getD q 0 = k * 32 + (cb + 1)
  inj : ∀ q q', L.getD q 0 ≠ 0 → L.getD q 0 = L.getD q' 0 → q = q'
  ex : ∀ j, j < i → cb < lens.getD j 0 → L.getD (cval lens j % 2 ^ cb) 0 ≠ 0
theorem link_zero (lens : List Nat) (cb : Nat) : linkOK lens cb 0 (List.replicate (2 ^ cb) 0) 0 := by
  have e : ∀ q, (List.replicate (2 ^ cb) 0).getD q 0 = 0 := fun q => by
    rw [List.getD_eq_getElem?_getD, List.getElem?_replicate]; split <;> rfl
  exact ⟨List.length_replicate, Nat.le_refl _, fun q h => absurd (e q) h, fun q q' h => absurd (e q) h, fun j h => by omega⟩
theorem link_skip {lens : List Nat} {cb i n : Nat} {L : List Nat} (h : linkOK lens cb i L n) (h1 : ¬ (cb < lens.getD i 0 ∧ L.getD (cval lens i % 2 ^ cb) 0 = 0)) : linkOK lens cb (i + 1) L n := by
  refine ⟨h.len, by have := h.le; omega, h.val, h.inj, fun j hj hl => ?_⟩
  by_cases e : j = i
  · subst e; exact fun h2 => h1 ⟨hl, h2⟩
  · exact h.ex j (by omega) hl
theorem link_new {lens : List Nat} {cb i n : Nat} {L : List Nat} (h : linkOK lens cb i L n) (h0 : L.getD (cval lens i % 2 ^ cb) 0 = 0) : linkOK lens cb (i + 1) (L.set (cval lens i % 2 ^ cb) (n * 32 + (cb + 1))) (n + 1) := by
  have hp : 0 < 2 ^ cb := Nat.pow_pos (by decide)
  have hq : cval lens i % 2 ^ cb < L.length := by rw [h.len]; exact Nat.mod_lt _ hp
  obtain ⟨a, ha⟩ : ∃ a, a = cval lens i % 2 ^ cb := ⟨_, rfl⟩
  rw [← ha] at h0 hq ⊢
  have e : ∀ q, (L.set a (n * 32 + (cb + 1))).getD q 0 = if a = q then n * 32 + (cb + 1) else L.getD q 0 := fun q => by
    rw [List.getD_eq_getElem?_getD, List.getElem?_set]
    by_cases h1 : a = q
    · rw [if_pos h1, if_pos h1, if_pos (by omega)]; rfl
    · rw [if_neg h1, if_neg h1, List.getD_eq_getElem?_getD]
  have hn := h.le
  refine ⟨by rw [List.length_set]; exact h.len, by omega, fun q hq => ?_, fun q q' h1 h2 => ?_, fun j hj hl => ?_⟩
  · rw [e] at hq ⊢
    split
    · exact ⟨n, by omega, rfl⟩
    · rw [if_neg (by assumption)] at hq
      obtain ⟨k, h1, h2⟩ := h.val q hq
      exact ⟨k, by omega, h2⟩
  · rw [e] at h1
    rw [e, e] at h2
    by_cases c1 : a = q <;> by_cases c2 : a = q'
    · omega
    · exfalso
      rw [if_pos c1, if_neg c2] at h2
      obtain ⟨k, h3, h4⟩ := h.val q' (by omega)
      omega
    · exfalso
      rw [if_neg c1, if_pos c2] at h2
      obtain ⟨k, h3, h4⟩ := h.val q (by omega)
      omega
    · rw [if_neg c1] at h1 h2
      rw [if_neg c2] at h2
      exact h.inj q q' h1 h2
  · rw [e]
    split
    · omega
    · by_cases e2 : j = i
      · rename_i hne
        exact absurd (by rw [e2]; exact ha) hne
      · exact h.ex j (by omega) hl
/-- What the codes ahead of i have put into the tables. -/
structure tabs (lens : List Nat) (cb lb : Nat) (L : List Nat) (i : Nat) (C F : List Nat) : Prop where
  len : C.length = 2 ^ cb
  short : ∀ v, cd lens v < i → cl lens v ≤ cb → C[v % 2 ^ cb]? = some (cd lens v * 32 + cl lens v)
  ptr : ∀ v, cb < cl lens v → C[v % 2 ^ cb]? = L[v % 2 ^ cb]?
  long : ∀ v, cb < cl lens v → cd lens v < i → F[L.getD (v % 2 ^ cb) 0 / 32 * 2 ^ lb + v / 2 ^ cb % 2 ^ lb]? = some (cd lens v * 32 + cl lens v)
theorem tabs_zero {lens : List Nat} {cb lb : Nat} {L F : List Nat} (h : L.length = 2 ^ cb) : tabs lens cb lb L 0 L F := ⟨h, fun v h => by omega, fun v _ => rfl, fun v _ h => by omega⟩
theorem mod_mod_le {v a b : Nat} (h : a ≤ b) : v % 2 ^ b % 2 ^ a = v % 2 ^ a := Nat.mod_mod_of_dvd v (Nat.pow_dvd_pow 2 h)
/-- A code of a length up to the first table's. -/
theorem tabs_short {lens : List Nat} (hg : Good lens) {cb lb i : Nat} {L C F : List Nat} (h : tabs lens cb lb L i C F) (hi : i < lens.length) (hl : lens.getD i 0 ≤ cb) {j : Nat} (hj : C.length ≤ j) :
    tabs lens cb lb L (i + 1) (fillAt C 0 (2 ^ lens.getD i 0) (cval lens i) (i * 32 + lens.getD i 0) j) F := by
  have hp : 0 < 2 ^ cb := Nat.pow_pos (by decide)
  have hlen := h.len
  have key : ∀ v, (0 ≤ v % 2 ^ cb ∧ v % 2 ^ cb < 0 + j ∧ (v % 2 ^ cb - 0) % 2 ^ lens.getD i 0 = cval lens i) ↔ cd lens v = i := fun v => by
    have h1 := Nat.mod_lt v hp
    rw [Nat.sub_zero, mod_mod_le hl]
    constructor
    · exact fun h2 => cd_eq hg hi h2.2.2
    · rintro rfl
      exact ⟨by omega, by omega, (cd_hit hg v).2⟩
  have g : ∀ v, (fillAt C 0 (2 ^ lens.getD i 0) (cval lens i) (i * 32 + lens.getD i 0) j)[v % 2 ^ cb]? = (C[v % 2 ^ cb]?).map fun x => if cd lens v = i then i * 32 + lens.getD i 0 else x := fun v => by
    rw [fillAt_get]
    congr 1
    funext x
    by_cases h1 : cd lens v = i
    · rw [if_pos h1, if_pos ((key v).2 h1)]
    · rw [if_neg h1, if_neg (fun h2 => h1 ((key v).1 h2))]
  refine ⟨by rw [fillAt_len]; exact hlen, fun v h1 h2 => ?_, fun v h1 => ?_, fun v h1 h2 => ?_⟩
  · rw [g]
    by_cases e : cd lens v = i
    · rw [List.getElem?_eq_getElem (by rw [hlen]; exact Nat.mod_lt _ hp), Option.map_some, if_pos e, e]
      unfold cl; rw [e]
    · rw [h.short v (by omega) h2, Option.map_some, if_neg e]
  · have e : cd lens v ≠ i := fun e => by unfold cl at h1; rw [e] at h1; omega
    rw [g, ← h.ptr v h1]
    cases C[v % 2 ^ cb]? <;> simp [e]
  · have e : cd lens v ≠ i := fun e => by unfold cl at h1; rw [e] at h1; omega
    exact h.long v h1 (by omega)
/-- A longer code. -/
theorem tabs_long {lens : List Nat} (hg : Good lens) {cb lb i n : Nat} {L C F : List Nat} (h : tabs lens cb lb L i C F) (hL : linkOK lens cb lens.length L n) (hi : i < lens.length) (hl : cb < lens.getD i 0) (hm : lens.getD i 0 ≤ cb + lb) (hF : n * 2 ^ lb ≤ F.length) {j : Nat} (hcb : cb ≤ 9) {j : Nat} (hj : j = 2 ^ lb) :
    tabs lens cb lb L (i + 1) C (fillAt F (L.getD (cval lens i % 2 ^ cb) 0 / 32 * 2 ^ lb) (2 ^ (lens.getD i 0 - cb)) (cval lens i / 2 ^ cb) (i * 32 + lens.getD i 0) j) := by
  subst hj
  have hp : 0 < 2 ^ cb := Nat.pow_pos (by decide)
  have hq : 0 < 2 ^ lb := Nat.pow_pos (by decide)
  have at_ : ∀ {v}, cb < cl lens v → v % 2 ^ cb = cval lens (cd lens v) % 2 ^ cb := fun {v} hv => by
    have h1 := (cd_hit hg v).2
    unfold hit at h1
    unfold cval
    rw [← h1]
    exact (mod_mod_le (Nat.le_of_lt hv)).symm
  have nz : ∀ {v}, cb < cl lens v → L.getD (v % 2 ^ cb) 0 ≠ 0 := fun {v} hv => by
    rw [at_ hv]; exact hL.ex _ (cd_hit hg v).1 hv
  have num : ∀ q, L.getD q 0 ≠ 0 → L.getD q 0 = L.getD q 0 / 32 * 32 + (cb + 1) ∧ L.getD q 0 / 32 < n := fun q hq => by
    obtain ⟨k, h1, h2⟩ := hL.val q hq
    omega
  have hci : cb < cl lens (cval lens i) := by rw [cval_cl hg hi]; exact hl
  obtain ⟨z1, z2⟩ := num _ (nz hci)
  generalize hk : L.getD (cval lens i % 2 ^ cb) 0 / 32 = k0 at *
  obtain ⟨d, hd⟩ : ∃ d, lens.getD i 0 = cb + d := ⟨lens.getD i 0 - cb, by omega⟩
  have key : ∀ v, cb < cl lens v → ((k0 * 2 ^ lb ≤ L.getD (v % 2 ^ cb) 0 / 32 * 2 ^ lb + v / 2 ^ cb % 2 ^ lb ∧ L.getD (v % 2 ^ cb) 0 / 32 * 2 ^ lb + v / 2 ^ cb % 2 ^ lb < k0 * 2 ^ lb + 2 ^ lb ∧ (L.getD (v % 2 ^ cb) 0 / 32 * 2 ^ lb + v / 2 ^ cb % 2 ^ lb - k0 * 2 ^ lb) % 2 ^ (lens.getD i 0 - cb) = cval lens i / 2 ^ cb) ↔ cd lens v = i) := fun v hv => by
    obtain ⟨y1, y2⟩ := num _ (nz hv)
    have hy := Nat.mod_lt (v / 2 ^ cb) hq
    rw [hd, Nat.add_sub_cancel_left]
    constructor
    · rintro ⟨h1, h2, h3⟩
      have e : L.getD (v % 2 ^ cb) 0 / 32 = k0 := by
        generalize L.getD (v % 2 ^ cb) 0 / 32 = kv at *
        generalize 2 ^ lb = p at *
        rcases Nat.lt_trichotomy kv k0 with h4 | h4 | h4
        · have := Nat.mul_le_mul_right p (show kv + 1 ≤ k0 by omega)
          rw [Nat.add_mul] at this; omega
        · exact h4
        · have := Nat.mul_le_mul_right p (show k0 + 1 ≤ kv by omega)
          rw [Nat.add_mul] at this; omega
      rw [e, Nat.add_sub_cancel_left, mod_mod_le (by omega)] at h3
      have e2 : v % 2 ^ cb = cval lens i % 2 ^ cb := hL.inj _ _ (nz hv) (by omega)
      refine cd_eq hg hi ?_
      show v % 2 ^ lens.getD i 0 = cval lens i
      rw [hd, Nat.pow_add, Nat.mod_mul, e2, h3]
      exact Nat.mod_add_div _ _
    · rintro rfl
      have e := at_ hv
      have e2 : L.getD (v % 2 ^ cb) 0 / 32 = k0 := by rw [e]; exact hk
      rw [e2, Nat.add_sub_cancel_left, mod_mod_le (by omega)]
      refine ⟨by omega, by omega, ?_⟩
      have h1 : v % 2 ^ lens.getD (cd lens v) 0 = cval lens (cd lens v) := (cd_hit hg v).2
      rw [← h1, hd, Nat.pow_add, Nat.mod_mul, Nat.add_mul_div_left _ _ hp, Nat.div_eq_of_lt (Nat.mod_lt _ hp), Nat.zero_add]
  refine ⟨h.len, fun v h1 h2 => h.short v ?_ h2, h.ptr, fun v h1 h2 => ?_⟩
  · have : cd lens v ≠ i := fun e => by unfold cl at h2; rw [e] at h2; omega
    omega
  · rw [fillAt_get]
    by_cases e : cd lens v = i
    · obtain ⟨y1, y2⟩ := num _ (nz h1)
      have hy := Nat.mod_lt (v / 2 ^ cb) hq
      have hlt : L.getD (v % 2 ^ cb) 0 / 32 * 2 ^ lb + v / 2 ^ cb % 2 ^ lb < F.length := by
        generalize L.getD (v % 2 ^ cb) 0 / 32 = kv at *
        have := Nat.mul_le_mul_right (2 ^ lb) (show kv + 1 ≤ n by omega)
        rw [Nat.add_mul] at this; omega
      rw [List.getElem?_eq_getElem hlt, Option.map_some, if_pos ((key v h1).2 e), e]
      unfold cl; rw [e]
    · rw [h.long v h1 (by omega), Option.map_some, if_neg (fun h2 => e ((key v h1).1 h2))]
theorem tabs_end {lens : List Nat} (hg : Good lens) {cb lb n : Nat} {L C F : List Nat} (h : tabs lens cb lb L lens.length C F) (hL : linkOK lens cb lens.length L n) (hcb : cb ≤ 9) {v : Nat} (hv : cb < cl lens v) :
    ∃ k, k < n ∧ C[v % 2 ^ cb]? = some (k * 32 + (cb + 1)) ∧ F[k * 2 ^ lb + v / 2 ^ cb % 2 ^ lb]? = some (cd lens v * 32 + cl lens v) := by
  have h1 := (cd_hit hg v).2
  have e : v % 2 ^ cb = cval lens (cd lens v) % 2 ^ cb := by
    unfold hit at h1
    unfold cval
    rw [← h1]
    exact (mod_mod_le (Nat.le_of_lt hv)).symm
  have nz : L.getD (v % 2 ^ cb) 0 ≠ 0 := by rw [e]; exact hL.ex _ (cd_hit hg v).1 hv
  obtain ⟨k, h2, h3⟩ := hL.val _ nz
  have hl := h.long v hv (cd_hit hg v).1
  have hp := h.ptr v hv
  rw [show L.getD (v % 2 ^ cb) 0 / 32 = k by omega] at hl
  refine ⟨k, h2, ?_, hl⟩
  rw [hp]
  have hq : v % 2 ^ cb < L.length := by rw [hL.len]; exact Nat.mod_lt _ (Nat.pow_pos (by decide))
  rw [List.getElem?_eq_getElem hq, ← h3, List.getD_eq_getElem?_getD, List.getElem?_eq_getElem hq]
  rfl
theorem part_get {F : List Nat} {k p y : Nat} (hy : y < p) : ((F.take ((k + 1) * p)).drop (k * p))[y]? = F[k * p + y]? := by
  rw [List.getElem?_drop, List.getElem?_take, if_pos (by rw [Nat.add_mul]; omega)]
/-- The least and the greatest length, of the leading i codes. -/
structure mmOK (lens : List Nat) (i mn mx : Nat) : Prop where
  all : ∀ j, j < i → mn ≤ lens.getD j 0 ∧ lens.getD j 0 ≤ mx
  lo : 1 ≤ mn ∧ mn ≤ 27
  hi : mx ≤ 20
  at_ : mx = 0 ∨ ∃ j, j < i ∧ lens.getD j 0 = mx
theorem mm_zero (lens : List Nat) : mmOK lens 0 27 0 := ⟨fun j h => by omega, by omega, by omega, .inl rfl⟩
theorem mm_step {lens : List Nat} (hg : Good lens) {i mn mx : Nat} (h : mmOK lens i mn mx) (hi : i < lens.length) {mn' mx' : Nat} (h1 : mn' = min mn (lens.getD i 0)) (h2 : mx' = max mx (lens.getD i 0)) : mmOK lens (i + 1) mn' mx' := by
  have hp := hg.pos _ (getD_mem hi)
  have hl := h.lo
  have hh := h.hi
  refine ⟨fun j hj => ?_, by omega, by omega, ?_⟩
  · by_cases e : j = i
    · subst e; omega
    · have := h.all j (by omega); omega
  · by_cases e : mx ≤ lens.getD i 0
    · exact .inr ⟨i, by omega, by omega⟩
    · rcases h.at_ with h3 | ⟨j, h3, h4⟩
      · omega
      · exact .inr ⟨j, by omega, by omega⟩
theorem mm_end {lens : List Nat} (hg : Good lens) {mn mx : Nat} (h : mmOK lens lens.length mn mx) : 1 ≤ mx ∧ (∀ v, mn ≤ cl lens v ∧ cl lens v ≤ mx) ∧ ∃ j, j < lens.length ∧ lens.getD j 0 = mx := by
  have h2 := hg.two
  have h0 := h.all 0 (by omega)
  have hp := hg.pos _ (getD_mem (show 0 < lens.length by omega))
  refine ⟨by omega, fun v => h.all _ (cd_hit hg v).1, ?_⟩
  rcases h.at_ with h3 | h3
  · omega
  · exact h3
end Pc
/-
  Rows of one's own inside blocks, frozen where a function ends.
-/
set_option linter.unusedVariables false
namespace Go.Vg
variable {T : Tys}
def frzS : List (Seg T) → List (Ent T) → (List (Seg T) → List (Ent T) → VCT) → VCT
  | [], H, k => k [] H
  | .c x :: r, H, k => frz x H fun y H => frzS r H fun ys H => k (.c y :: ys) H
  | .r e n l :: r, H, k => frzS r H fun ys H => k (.r e n l :: ys) H
def frzE : List Nat → List (Ent T) → (List (Ent T) → VCT) → VCT
  | [], H, k => k H
  | i :: r, H, k => match H.getD i .X with
    | .B b t xs => frzS xs H fun ys H => match H.getD i .X with
      | .B b' t' _ => .fact (b' = b) (frzE r (H.set i (.B b t ys)) k)
      | _ => .ff "freeze: no block"
    | _ => .ff "freeze: no block"
def outB (es : List Nat) (fz : Bool) (n0 : Nat) (K : SV T → List (Ent T) → VCT) (r : SV T) (H : List (Ent T)) : VCT := frzE es H fun H => outK fz n0 K r H
theorem frzS_ok {C : Ctx T} {w : World} : ∀ (xs : List (Seg T)) (H : List (Ent T)) (k : List (Seg T) → List (Ent T) → VCT), (frzS xs H k).den → HOK C H w → Seg.validL (Owns H) w xs →
    ∃ ys H', Seg.cellsL ys = Seg.cellsL xs ∧ (k ys H').den ∧ HOK C H' w ∧ Seg.validL (Owns H') w ys ∧ Stp (Owns H) (Owns H') w w
  | [], H, k, hk, hH, hx => ⟨[], H, rfl, hk, hH, trivial, Stp.refl _ _⟩
  | .c x :: r, H, k, hk, hH, hx => by
    obtain ⟨y, H1, h1, h2, h3, h4, h5⟩ := frz_ok x H _ hk hH hx.1.1
    obtain ⟨ys, H2, g1, g2, g3, g4, g5⟩ := frzS_ok r H1 _ h2 h3 (Seg.validL_step h5 r hx.2)
    refine ⟨.c y :: ys, H2, by simp only [Seg.cellsL, Seg.cells, h1, g1], g2, g3, ⟨⟨SV.valid_step g5 y h4, ?_⟩, g4⟩, h5.trans g5⟩
    rw [h1]; exact hx.1.2
  | .r e n l :: r, H, k, hk, hH, hx => by
    obtain ⟨ys, H2, g1, g2, g3, g4, g5⟩ := frzS_ok r H _ hk hH hx.2
    exact ⟨.r e n l :: ys, H2, by simp only [Seg.cellsL, g1], g2, g3, ⟨hx.1, g4⟩, g5⟩
theorem frzE_ok {C : Ctx T} {w : World} : ∀ (es : List Nat) (H : List (Ent T)) (k : List (Ent T) → VCT) (r : SV T), (frzE es H k).den → HOK C H w → r.valid (Owns H) w →
    ∃ H', (k H').den ∧ HOK C H' w ∧ r.valid (Owns H') w ∧ Stp (Owns H) (Owns H') w w
  | [], H, k, r, hk, hH, hr => ⟨H, hk, hH, hr, Stp.refl _ _⟩
  | i :: es, H, k, r, hk, hH, hr => by
    unfold frzE at hk
    split at hk
    · rename_i b t xs he
      have hent : (H.getD i .X).ok (Owns H) w := ent_ok (S := { fr := Fr.nil, H := H }) hH i
      rw [he] at hent
      obtain ⟨ys, H1, h1, h2, h3, h4, h5⟩ := frzS_ok xs H _ hk hH hent.2
      split at h2
      · rename_i b' t' zs he1
        obtain ⟨rfl, h2⟩ := h2
        have hn1 := ent_get (S := { fr := Fr.nil, H := H1 }) (h := i) he1 (by intro h; cases h)
        obtain ⟨p1, p2⟩ := h3.put i _ (.B b' t ys) hn1 (w' := w) rfl rfl rfl (Nat.le_refl _) (fun _ _ _ => rfl) (fun k hk => ⟨.inl hk, h3.lt k ⟨i, _, hn1, hk⟩⟩) (fun I s => ⟨by rw [h1]; exact hent.1, Seg.validL_step s ys h4⟩)
        obtain ⟨H2, q1, q2, q3, q4⟩ := frzE_ok es _ k r h2 p1 (SV.valid_step (h5.trans p2) r hr)
        exact ⟨H2, q1, q2, q3, (h5.trans p2).trans q4⟩
      · exact h2.elim
    · exact hk.elim
/-- As `ctr_okX`; rows of one's own in the blocks es are frozen at the end. -/
theorem ctr_okB {C : Ctx T} (hz : ZOK C) {sp : Nat → Option (PT T)} (hsp : ∀ f pt, sp f = some pt → SpecOK C f pt) (hm : C.P.follows .mixedOrders = true) {f : Nat} {fn : Func} (hf : C.P.funcs[f]? = some fn)
    (hname : (fn.name == "runtime.NumGoroutine") = false) (hb : fn.body.isSome = true) (hlx : lexF fn = true) (es : List Nat) (fz : Bool) (c : Ctr T) (ann : c.X → Ann T)
    (h : ∀ x, c.phi x → Met (fnx C sp (ann x) fn (c.args x) (c.H x) (outB es fz (c.H x).length (c.ret x)) (c.pan x))) : SpecOK C f c.pt := by
  obtain ⟨cd, hc⟩ := Option.isSome_iff_exists.mp hb
  refine ctr_spec c (fun args w => MuLone.run_callFunc_enter hf hname hc args w) fun x hx w hI => ?_
  refine (fnx_ok hz hsp hm hf hlx (h x hx).den hI).mono ?_
  rintro e w' (⟨r, H', rfl, hk, hH', hr, hst⟩ | ⟨r, H', rfl, hk, hH', hr, hst⟩)
  · obtain ⟨H1, q1, q2, q3, q4⟩ := frzE_ok es H' _ r hk hH' hr
    obtain ⟨r2, H2, g1, g2, g3, g4, g5⟩ := outK_ok q1 q2 q3
    exact .inl ⟨r2, H2, by rw [g1], g2, g3, g4, (hst.trans q4).trans g5⟩
  · exact .inr ⟨r, H', rfl, hk, hH', hr, hst⟩
end Go.Vg
/-
  The contract of Decoder.Init.
-/
set_option linter.unusedVariables false
set_option maxRecDepth 100000
open Go Go.Vg Go.Proofs
namespace Pc
/-- The context in which raw slices of type 42 are parts of the row of entry 5. -/
noncomputable def CD (G : Gl) : Ctx TT := { CC G with hint := fun t => cond (Nat.beq t 42) (some 5) none }
theorem spec_CD {G : Gl} {f : Nat} {pt : PT TT} (hs : SpecOK (CC G) f pt) : SpecOK (CD G) f pt := ⟨hs.enters, fun args H K Kp w hp hI => by
  have := hs.calls args H K Kp w hp ⟨⟨hI.1.ents, hI.1.apart, hI.1.lt, hI.1.glob⟩, hI.2⟩
  refine this.mono ?_
  rintro e w' (⟨r, H', he, hk, hH', hr, hst⟩ | ⟨r, H', he, hk, hH', hr, hst⟩)
  · exact .inl ⟨r, H', he, hk, ⟨hH'.ents, hH'.apart, hH'.lt, hH'.glob⟩, hr, hst⟩
  · exact .inr ⟨r, H', he, hk, ⟨hH'.ents, hH'.apart, hH'.lt, hH'.glob⟩, hr, hst⟩⟩
theorem spec_DC {G : Gl} {f : Nat} {pt : PT TT} (hs : SpecOK (CD G) f pt) : SpecOK (CC G) f pt := ⟨hs.enters, fun args H K Kp w hp hI => by
  have := hs.calls args H K Kp w hp ⟨⟨hI.1.ents, hI.1.apart, hI.1.lt, hI.1.glob⟩, hI.2⟩
  refine this.mono ?_
  rintro e w' (⟨r, H', he, hk, hH', hr, hst⟩ | ⟨r, H', he, hk, hH', hr, hst⟩)
  · exact .inl ⟨r, H', he, hk, ⟨hH'.ents, hH'.apart, hH'.lt, hH'.glob⟩, hr, hst⟩
  · exact .inr ⟨r, H', he, hk, ⟨hH'.ents, hH'.apart, hH'.lt, hH'.glob⟩, hr, hst⟩⟩
noncomputable def IND (G : Gl) (base : Nat → Option (PT TT)) (ann : Nat → Ann TT) : Nat → Option (PT TT) := inl (CD G) base (bodyW ann) 12
/-- A contract from a function's text, with tables. -/
theorem specD (G : Gl) {base : Nat → Option (PT TT)} (hb : ∀ f pt, base f = some pt → SpecOK (CC G) f pt) {f : Nat} {fn : Func} (hf : fnOf f = some fn) (anns : Nat → Ann TT) (es : List Nat) (c : Ctr TT) (ann : c.X → Ann TT)
    (h : ∀ x, c.phi x → Met (fnx (CD G) (IND G base anns) (ann x) fn (c.args x) (c.H x) (outB es true (c.H x).length (c.ret x)) (c.pan x))) : SpecOK (CC G) f c.pt := by
  obtain ⟨h1, h2, h3, h4⟩ := fnOf_ok G f fn hf
  refine spec_DC ?_
  have hz : ZOK (CD G) := zok G
  have hm : (CD G).P.follows .mixedOrders = true := mixed G
  exact ctr_okB hz (inl_ok hz hm (fun f pt h => spec_CD (hb f pt h)) (bodyW_ok G anns) 12) hm h1 h2 h3 h4 es true c ann h
/-- The context in which rows are as long as they are told. -/
noncomputable def CT (G : Gl) : Ctx TT := { CC G with tight := true }
theorem spec_TC {G : Gl} {f : Nat} {pt : PT TT} (hs : SpecOK (CT G) f pt) : SpecOK (CC G) f pt := ⟨hs.enters, fun args H K Kp w hp hI => by
  have := hs.calls args H K Kp w hp ⟨⟨hI.1.ents, hI.1.apart, hI.1.lt, hI.1.glob⟩, hI.2⟩
  refine this.mono ?_
  rintro e w' (⟨r, H', he, hk, hH', hr, hst⟩ | ⟨r, H', he, hk, hH', hr, hst⟩)
  · exact .inl ⟨r, H', he, hk, ⟨hH'.ents, hH'.apart, hH'.lt, hH'.glob⟩, hr, hst⟩
  · exact .inr ⟨r, H', he, hk, ⟨hH'.ents, hH'.apart, hH'.lt, hH'.glob⟩, hr, hst⟩⟩
/-- A contract from a function's text; what it gives back is of one's own. -/
theorem specT (G : Gl) {f : Nat} {fn : Func} (hf : fnOf f = some fn) (c : Ctr TT) (ann : c.X → Ann TT)
    (h : ∀ x, c.phi x → Met (fnx (CT G) no (ann x) fn (c.args x) (c.H x) (outK false (c.H x).length (c.ret x)) (c.pan x))) : SpecOK (CC G) f c.pt := by
  obtain ⟨h1, h2, h3, h4⟩ := fnOf_ok G f fn hf
  refine spec_TC ?_
  have hz : ZOK (CT G) := zok G
  have hm : (CT G).P.follows .mixedOrders = true := mixed G
  exact ctr_okX hz (fun f pt h => by cases h) hm h1 h2 h3 h4 false c ann h
/-! New rows. -/
def c114 : Ctr TT where
  X := Fz × Rel TT × Nat
  find a H := match a, H with
    | [_, .v (.int .i64 n)], [.F m, .R rel] => some (m, rel, n.toNat)
    | _, _ => none
  phi x := 0 < x.2.2 ∧ x.2.2 ≤ 1000000
  args x := [.w (.slice none 0 0) 0, iv .i64 x.2.2]
  H x := fr2 x.1 x.2.1
  outs := [{ Y := fun _ => Value, psi := fun x y => True, res := fun x y => .o 2 43 y x.2.2, H := fun x y => [.F x.1, .R x.2.1, .O y 43 (ints (List.replicate x.2.2 0))] }]
def slN : Sl := ⟨none, 0, 0⟩
def c142 : Ctr TT where
  X := Fz × Rel TT × Nat
  find a H := match a, H with
    | [_, .v (.int .i64 n)], [.F m, .R rel] => some (m, rel, n.toNat)
    | _, _ => none
  phi x := 0 < x.2.2 ∧ x.2.2 ≤ 1000000
  args x := [nilV, iv .i64 x.2.2]
  H x := fr2 x.1 x.2.1
  outs := [{ Y := fun _ => Value, psi := fun x y => True, res := fun x y => .o 2 42 y x.2.2, H := fun x y => [.F x.1, .R x.2.1, .O y 42 (List.replicate x.2.2 slN)] }]
noncomputable def b100 : Nat → Option (PT TT)
  | 114 => some (loc [none, none] c114.pt)
  | 142 => some (loc [none, none] c142.pt)
  | _ => none
structure X100 where
  m : Fz
  rel : Rel TT
  db : Nat
  cv : Value
  lens : List Nat
def seg0 : List (Seg TT) := [nilS, nilS, i0 .u32, i0 .u32, i0 .u32, i0 .u32, i0 .u32]
def c100 : Ctr TT where
  X := X100
  find a H := match a, H with
    | [.p 2 _ (.lit 0), .ro 210 cv l], [.F m, .R rel, .B db 201 _] => some ⟨m, rel, db, cv, lensOf l⟩
    | _, _ => none
  phi x := Good x.lens
  args x := [.p 2 x.db (.lit 0), .ro 210 x.cv (canonL x.lens)]
  H x := [.F x.m, .R x.rel, .B x.db 201 seg0]
  outs := [{ Y := fun _ => DC × Rel TT, psi := fun x y => relLe x.rel y.2 ∧ decOK y.2 x.lens y.1, res := fun x _ => .t [], H := fun x y => [.F x.m, .R y.2, .B x.db 201 (segD y.1)] }]
/-- A decoder under way: its first table is of its own. -/
def segW (cv : Value) (ls : SV TT) (cb lm mn ns : Nat) : List (Seg TT) := [.c (.o 3 43 cv (2 ^ cb)), .c ls, .c (iv .u32 (2 ^ cb - 1)), .c (iv .u32 lm), .c (iv .u32 cb), .c (iv .u32 mn), .c (iv .u32 ns)]
structure links (fx : Value) (nl n t : Nat) (lk : List Sl) : Prop where
  len : lk.length = n
  at_ : ∀ s, s < t → ∃ sl, lk[s]? = some sl ∧ sl.val = sliceVal fx (s * nl) ((s + 1) * nl) 1 ∧ sl.n = nl
noncomputable def inv59 (lens : List Nat) (cx : Value) (C : List Nat) (i : Nat) : Inv TT where
  X := Nat
  phi := fun j => j % 2 ^ lens.getD i 0 = cval lens i ∧ j < C.length + 2 ^ lens.getD i 0
  fr := fun j => [(19, iv .u32 (i * 32 + lens.getD i 0)), (20, iv .i64 (2 ^ lens.getD i 0)), (21, iv .i64 j)]
  H := fun j => [(3, .O cx 43 (ints (fillAt C 0 (2 ^ lens.getD i 0) (cval lens i) (i * 32 + lens.getD i 0) j)))]
  mu := fun j => C.length + 2 ^ lens.getD i 0 - j
def lkAt (lens C : List Nat) (i cb : Nat) : Nat := C.getD (cval lens i % 2 ^ cb) 0 / 32
noncomputable def inv66 (lens : List Nat) (fx : Value) (C F : List Nat) (i cb nl : Nat) : Inv TT where
  X := Nat
  phi := fun j => j % 2 ^ (lens.getD i 0 - cb) = cval lens i / 2 ^ cb ∧ j < nl + 2 ^ (lens.getD i 0 - cb)
  fr := fun j => [(19, iv .u32 (i * 32 + lens.getD i 0)), (23, .w (sliceVal fx (lkAt lens C i cb * nl) ((lkAt lens C i cb + 1) * nl) 1) nl), (24, iv .i64 (2 ^ (lens.getD i 0 - cb))), (25, iv .i64 j)]
  H := fun j => [(5, .O fx 43 (ints (fillAt F (lkAt lens C i cb * nl) (2 ^ (lens.getD i 0 - cb)) (cval lens i / 2 ^ cb) (i * 32 + lens.getD i 0) j)))]
  mu := fun j => nl + 2 ^ (lens.getD i 0 - cb) - j
noncomputable def a100 (db : Nat) (lens : List Nat) : Ann TT := fun r S => match r with
  | 13 => some {
    X := Nat × Nat × Nat
    phi := fun y => y.1 ≤ lens.length ∧ mmOK lens y.1 y.2.1 y.2.2
    fr := fun y => [(106, iv .i64 y.1), (4, iv .u32 y.2.1), (5, iv .u32 y.2.2)]
    H := fun y => []
    mu := fun y => lens.length - y.1 }
  | 5025 => match S.ent 2, S.get 5 with
    | .B _ _ [_, _, _, _, _, mn, ns], some (.v (.int _ mx)) => some {
      X := Nat
      phi := fun c => c = min mx.toNat 9
      fr := fun _ => []
      H := fun c => [(2, .B db 201 [nilS, nilS, i0 .u32, i0 .u32, .c (iv .u32 c), mn, ns])]
      mu := fun _ => 0 }
    | _, _ => none
  | 5028 => match S.ent 2 with
    | .B _ _ (.c (.o _ _ cx _) :: _) => some {
      X := Nat × Nat × Nat
      phi := fun y => mmOK lens lens.length y.1 y.2.1 ∧ y.2.2 = min y.2.1 9
      fr := fun y => [(5, iv .u32 y.2.1)]
      H := fun y => [(2, .B db 201 (segW cx nilV y.2.2 0 y.1 lens.length)), (3, .O cx 43 (ints (List.replicate (2 ^ y.2.2) 0)))]
      mu := fun _ => 0 }
    | _ => none
  | 5033 => match S.ent 2, S.ent 3, S.get 5 with
    | .B _ _ [_, _, _, _, .c (.v (.int _ cb)), .c (.v (.int _ mn)), _], .O cx 43 _, some (.v (.int _ mx)) => some {
      X := Unit
      phi := fun y => True
      fr := fun y => [(9, iv .i64 (2 ^ (mx.toNat - cb.toNat)))]
      H := fun y => [(2, .B db 201 (segW cx nilV cb.toNat (2 ^ (mx.toNat - cb.toNat) - 1) mn.toNat lens.length))]
      mu := fun _ => 0 }
    | _, _, _ => none
  | 35 => match S.ent 3 with
    | .O cx 43 l => some {
      X := Nat
      phi := fun i => i ≤ l.length
      fr := fun i => [(200, iv .i64 i)]
      H := fun i => [(3, .O cx 43 l)]
      mu := fun i => l.length - i }
    | _ => none
  | 40 => match S.ent 2, S.ent 3 with
    | .B _ _ [_, _, _, _, .c (.v (.int _ cb)), _, _], .O cx 43 _ => some {
      X := Nat × List Nat × Nat
      phi := fun y => y.1 ≤ lens.length ∧ linkOK lens cb.toNat y.1 y.2.1 y.2.2
      fr := fun y => [(212, iv .i64 y.1), (10, iv .u32 y.2.2)]
      H := fun y => [(3, .O cx 43 (ints y.2.1))]
      mu := fun y => lens.length - y.1 }
    | _, _ => none
  | 49 => match S.ent 4, S.get 14, S.get 9, S.get 10 with
    | .O lx 42 _, some (.o _ _ fx _), some (.v (.int _ nl)), some (.v (.int _ n)) => some {
      X := Nat × List Sl
      phi := fun y => y.1 ≤ n.toNat ∧ links fx nl.toNat n.toNat y.1 y.2
      fr := fun y => [(15, iv .i64 y.1), (16, iv .i64 (y.1 * nl.toNat))]
      H := fun y => [(4, .O lx 42 y.2)]
      mu := fun y => n.toNat - y.1 }
    | _, _, _, _ => none
  | 53 => match S.ent 2, S.ent 3 with
    | .B _ _ [_, _, _, _, .c (.v (.int _ cb)), _, _], .O cx 43 L => match S.H, S.get 5 with
      | [_, _, _, _, _, .O fx 43 F0], some (.v (.int _ mx)) => some {
        X := Nat × List Nat × List Nat
        phi := fun y => y.1 ≤ lens.length ∧ tabs lens cb.toNat (mx.toNat - cb.toNat) (nats L) y.1 y.2.1 y.2.2 ∧ y.2.2.length = F0.length
        fr := fun y => [(309, iv .i64 y.1)]
        H := fun y => [(3, .O cx 43 (ints y.2.1)), (5, .O fx 43 (ints y.2.2))]
        mu := fun y => lens.length - y.1 }
      | _, _ => some {
        X := Nat × List Nat
        phi := fun y => y.1 ≤ lens.length ∧ tabs lens cb.toNat 0 (nats L) y.1 y.2 []
        fr := fun y => [(309, iv .i64 y.1)]
        H := fun y => [(3, .O cx 43 (ints y.2))]
        mu := fun y => lens.length - y.1 }
    | _, _ => none
  | 59 => match S.ent 3, S.get 309 with
    | .O cx 43 C, some (.v (.int _ i)) => some (inv59 lens cx (nats C) i.toNat)
    | _, _ => none
  | 66 => match S.ent 2, S.ent 3, S.ent 5 with
    | .B _ _ [_, _, _, _, .c (.v (.int _ cb)), _, _], .O _ 43 C, .O fx 43 F => match S.get 309, S.get 5 with
      | some (.v (.int _ i)), some (.v (.int _ mx)) => some (inv66 lens fx (nats C) (nats F) i.toNat cb.toNat (2 ^ (mx.toNat - cb.toNat)))
      | _, _ => none
    | _, _, _ => none
  | _ => none
/-! Numbers. -/
theorem canon_at {lens : List Nat} {i : Nat} {c : Cd} (h : (canonL lens)[i]? = some c) : i < lens.length ∧ c = ⟨i, 0, (lens.getD i 0 : Nat), (cval lens i : Nat)⟩ := by
  obtain ⟨k, h1, h2⟩ := canonL_get h
  obtain ⟨h3, rfl⟩ := List.getElem?_eq_some_iff.1 h1
  refine ⟨h3, ?_⟩
  rw [h2]
  unfold cval
  rw [List.getD_eq_getElem?_getD, h1, Option.getD_some]
theorem shl1 {n : Nat} (h : n ≤ 62) : shlI IntKind.i64 (1 : Int) (n : Int) = ((2 ^ n : Nat) : Int) := by
  have h1 : (2 : Nat) ^ n ≤ 2 ^ 62 := Nat.pow_le_pow_right (by decide) h
  unfold shlI
  rw [Int.toNat_natCast, show min n IntKind.i64.bits = n by simp only [IntKind.bits]; omega, Int.one_mul]
  have e : (2 : Int) ^ n = ((2 ^ n : Nat) : Int) := by simp
  rw [e]
  generalize (2 : Nat) ^ n = p at h1
  exact wrI (by omega) (by omega)
theorem chunkN {i l : Nat} (hi : i ≤ 60) (hl : l ≤ 20) : bitI BinOp.or IntKind.u32 (shlI IntKind.u32 (i : Int) (5 : Int)) (l : Int) = ((i * 32 + l : Nat) : Int) := by
  rw [show (5 : Int) = ((5 : Nat) : Int) from rfl, shlN rfl, show min 5 IntKind.u32.bits = 5 from rfl, Nat.mod_eq_of_lt (by simp only [IntKind.bits]; omega), orN rfl (by simp only [IntKind.bits]; omega) (by simp only [IntKind.bits]; omega)]
  rw [Nat.or_comm, or_add (show l < 2 ^ 5 by omega)]
  omega
theorem maskC {v n : Nat} (hv : v < 2 ^ 32) (hn : n ≤ 9) : bitI BinOp.and IntKind.u32 (v : Int) ((2 ^ n - 1 : Nat) : Int) = ((v % 2 ^ n : Nat) : Int) := by
  have h1 : (2 : Nat) ^ n ≤ 2 ^ 9 := Nat.pow_le_pow_right (by decide) hn
  rw [andN rfl (by simp only [IntKind.bits]; omega) (by simp only [IntKind.bits]; omega), Nat.and_two_pow_sub_one_eq_mod]
theorem w32 {n : Nat} (h : n < 2 ^ 32) : IntKind.u32.wrap (n : Int) = (n : Int) := wrId rfl h
theorem w64 {n : Nat} (h : n < 2 ^ 64) : IntKind.u64.wrap (n : Int) = (n : Int) := wrId rfl h
theorem w32s {a b : Nat} (h : b ≤ a) (ha : a < 2 ^ 32) : IntKind.u32.wrap ((a : Int) - (b : Int)) = ((a - b : Nat) : Int) := by
  rw [show (a : Int) - (b : Int) = ((a - b : Nat) : Int) by omega]
  exact w32 (by omega)
theorem shr32 {a n : Nat} (h : n ≤ 32) : shrI IntKind.u32 (a : Int) (n : Int) = ((a / 2 ^ n : Nat) : Int) := by
  rw [shrN, show min n IntKind.u32.bits = n by simp only [IntKind.bits]; omega]
theorem cval_small {lens : List Nat} (hg : Good lens) {i : Nat} (h : i < lens.length) : cval lens i < 2 ^ 20 :=
  Nat.lt_of_lt_of_le (cval_lt lens i) (Nat.pow_le_pow_right (by decide) (hg.pos _ (getD_mem h)).2)
theorem zeros_set (n z : Nat) : (ints (List.replicate n 0)).set z (0 : Int) = ints (List.replicate n 0) := by
  unfold ints
  rw [List.map_replicate]
  refine List.ext_getElem? fun q => ?_
  rw [List.getElem?_set, List.length_replicate, List.getElem?_replicate]
  by_cases h : z = q
  · subst h; simp
  · rw [if_neg h]
theorem ints_set (l : List Nat) (i v : Nat) : (ints l).set i (v : Int) = ints (l.set i v) := by
  unfold ints; rw [List.map_set]
theorem ints_getD {l : List Nat} {i : Nat} {x : Int} (h : (ints l)[i]? = some x) : i < l.length ∧ x = (l.getD i 0 : Nat) := by
  obtain ⟨n, h1, h2⟩ := ints_get h
  exact ⟨(List.getElem?_eq_some_iff.1 h1).1, by rw [List.getD_eq_getElem?_getD, h1]; exact h2⟩
theorem shr5 {k : Nat} : shrI IntKind.u32 (k : Int) (5 : Int) = ((k / 32 : Nat) : Int) := by
  rw [show (5 : Int) = ((5 : Nat) : Int) from rfl, shr32 (by decide)]
end Pc
/-
  The contract of Reader.Read.
-/
set_option linter.unusedVariables false
set_option maxRecDepth 100000
open Go Go.Vg Go.Proofs
namespace Pc
/-- A part of a row that bytes are read into. -/
structure BF where
  ox : Value
  l : List Int
  lo : Nat
  hi : Nat
  v : Value
/-- The row behind bytes were put at a place. -/
def putAt (l : List Int) (lo : Nat) (bs : List Nat) : List Int := l.take lo ++ ints bs ++ l.drop (lo + bs.length)
structure c230OK (x : RS) (b : BF) : Prop where
  w : rsW x
  ok : 0 < x.num → rsOK x
  al : x.P % 8 = 0
  room : b.lo ≤ b.hi ∧ b.hi ≤ b.l.length
structure read230 (x : RS) (b : BF) (v : RV) (n : Nat) : Prop where
  w : rsW (x.adv v (8 * n))
  ok : 0 < v.num → rsOK (x.adv v (8 * n))
  all : x.P + 8 * n ≤ 8 * x.bs.length
  room : n ≤ b.hi - b.lo
  some_ : b.lo < b.hi → 0 < n
structure eof230 (x : RS) (v : RV) : Prop where
  w : rsW (x.put v)
  num : x.num = 0
  all : x.P = 8 * x.bs.length
def c230 (G : Gl) (P : Nat) : Ctr TT where
  X := RS × BF
  find a H := match a, H with
    | [.p 2 _ (.lit 0), .ov 5 5 ox lo hi v], [a0, a1, a2, a3, a4, .O _ 5 l] => match getRS P [a0, a1, a2, a3, a4] with
      | some x => some (x, ⟨ox, l, lo, hi, v⟩)
      | none => none
    | _, _ => none
  phi x := c230OK x.1 x.2
  args x := [.p 2 x.1.rb (.lit 0), .ov 5 5 x.2.ox x.2.lo x.2.hi x.2.v]
  H x := x.1.H ++ [.O x.2.ox 5 x.2.l]
  outs := [
    { Y := fun _ => RV × Nat, psi := fun x y => read230 x.1 x.2 y.1 y.2, res := fun x y => .t [iv .i64 y.2, .v .nilIface], H := fun x y => (x.1.put y.1).H ++ [.O x.2.ox 5 (putAt x.2.l x.2.lo ((x.1.bs.drop (x.1.P / 8)).take y.2))] },
    { Y := fun _ => RV, psi := fun x y => eof230 x.1 y, res := fun x y => .t [iv .i64 0, .v (errV G.E)], H := fun x y => (x.1.put y).H ++ [.O x.2.ox 5 x.2.l] }]
noncomputable def a230 (x : RS) (b : BF) : Ann TT := fun r S => match r, getRV (S.H.take 5) with
  | 5, some s => some {
    X := Nat × Nat
    phi := fun y => y.1 ≤ b.hi - b.lo ∧ 8 * y.1 ≤ s.num ∧ bkOK (x.W / 2 ^ (8 * y.1)) y.2 (s.num - 8 * y.1)
    fr := fun y => [(4, iv .i64 y.1)]
    H := fun y => [(2, .B x.rb 108 (segR 3 4 x.sb x.bb s.off y.2 (s.num - 8 * y.1) x.big s.pk s.pkn s.dis s.fed)), (5, .O b.ox 5 (putAt b.l b.lo ((x.bs.drop (x.P / 8)).take y.1)))]
    mu := fun y => b.hi - b.lo - y.1 }
  | _, _ => none
noncomputable def b230 : Nat → Option (PT TT)
  | 80 => some (exPT fun P => loc [none] (c80 P).pt)
  | 164 => some (loc [none] c164.pt)
  | _ => none
theorem rs_takeB {x : RS} {v : RV} (h : rsOK (x.put v)) {n bits : Nat} (hn : n ≤ v.num) (hb : bkOK (x.W / 2 ^ n) bits (v.num - n)) : rsOK (x.adv { v with bits := bits, num := v.num - n } n) := by
  have al : (x.P + v.num) % 8 = 0 := h.l.al
  have en : x.P + v.num ≤ 8 * x.bs.length := h.l.end_
  have off : v.off ≤ (x.P + 7) / 8 := h.l.off
  have pk : vw x.bb v.arr x.bs v.pk v.pkn ((x.P + v.num) / 8) := h.l.pk
  have cov : ((x.P + v.num) / 8) + v.pkn ≤ v.pos + v.bn ∨ (v.pkn = 0 ∧ (x.P + v.num) / 8 ≤ (x.P + 7) / 8) := h.l.cov
  have dis : v.dis = (x.P : Int) - 8 * v.off - ((v.fed : Int) - v.num) := h.dis
  have fed : v.num ≤ v.fed ∧ v.fed ≤ 64 := h.fed
  refine ⟨⟨h.l.bytes, h.l.len, ?_, ?_, ?_, ?_, h.l.pos, h.l.arr, ?_, h.l.bv, ?_⟩, ?_, ?_⟩
  · have e : x.W / 2 ^ n = (x.adv { v with bits := bits, num := v.num - n } n).W := by
      unfold RS.W
      rw [Nat.div_div_eq_div_mul, ← Nat.pow_add]; rfl
    rw [e] at hb
    exact hb
  · show (x.P + n + (v.num - n)) % 8 = 0
    omega
  · show x.P + n + (v.num - n) ≤ 8 * x.bs.length
    omega
  · show v.off ≤ (x.P + n + 7) / 8
    omega
  · exact vw_at pk (show (x.P + v.num) / 8 = (x.P + n + (v.num - n)) / 8 by omega)
  · show ((x.P + n + (v.num - n)) / 8) + v.pkn ≤ v.pos + v.bn ∨ (v.pkn = 0 ∧ (x.P + n + (v.num - n)) / 8 ≤ (x.P + n + 7) / 8)
    omega
  · show v.dis = ((x.P + n : Nat) : Int) - 8 * v.off - ((v.fed : Int) - ((v.num - n : Nat) : Int))
    omega
  · show v.num - n ≤ v.fed ∧ v.fed ≤ 64
    omega
/-- Bytes that were read straight from the source. -/
theorem rs_read {x : RS} (h : rsW x) (h0 : x.num = 0) (hP : x.P % 8 = 0) {n : Nat} (hn : x.P + 8 * n ≤ 8 * x.bs.length) {dis : Int} (hd : dis = 0) {bits : Nat} {prev : Int} :
    rsW (x.adv ⟨(x.P + 7) / 8 + n, bits, x.num, .slice none 0 0, 0, dis, x.num, x.pos, x.bv, x.bn, x.arr, prev⟩ (8 * n)) := by
  have hp := h.pos
  have ho := h.off
  refine ⟨h.bytes, h.len, h.n, ?_, ?_, ?_, ?_, h.arr, vw_nil _ _ _ _, h.bv, ?_, ?_, ?_⟩
  · show (x.P + 8 * n + x.num) % 8 = 0
    omega
  · show x.P + 8 * n + x.num ≤ 8 * x.bs.length
    omega
  · show (x.P + 7) / 8 + n ≤ (x.P + 8 * n + 7) / 8
    omega
  · show x.pos ≤ (x.P + 7) / 8 + n
    omega
  · show ((x.P + 8 * n + x.num) / 8) + 0 ≤ x.pos + x.bn ∨ ((0 : Nat) = 0 ∧ (x.P + 8 * n + x.num) / 8 ≤ (x.P + 8 * n + 7) / 8)
    omega
  · show dis = ((x.P + 8 * n : Nat) : Int) - 8 * (((x.P + 7) / 8 + n : Nat) : Int) - ((x.num : Int) - x.num)
    omega
  · show x.num ≤ x.num ∧ x.num ≤ 64
    have := h.n
    omega
theorem read_direct {x : RS} {b : BF} (h : c230OK x b) (h0 : x.num = 0) {n : Nat} (hn : n = min (x.bs.length - (x.P + 7) / 8) (b.hi - b.lo)) (hp : 0 < x.bs.length - (x.P + 7) / 8) {dis : Int} (hd : dis = 0) {bits : Nat} {prev : Int} :
    read230 x b ⟨(x.P + 7) / 8 + n, bits, x.num, .slice none 0 0, 0, dis, x.num, x.pos, x.bv, x.bn, x.arr, prev⟩ n where
  w := rs_read h.w h0 h.al (by have := h.al; omega) hd
  ok := fun h1 => by
    have h1 : 0 < x.num := h1
    omega
  all := by have := h.al; omega
  room := by omega
  some_ := fun h1 => by omega
theorem putAt_set {l : List Int} {lo c z : Nat} {D : List Nat} (hc : D[c]? = some z) (hl : lo + c < l.length) : (putAt l lo (D.take c)).set (lo + c) (z : Int) = putAt l lo (D.take (c + 1)) := by
  have hcl := (List.getElem?_eq_some_iff.1 hc).1
  unfold putAt
  have e1 : (D.take c).length = c := by rw [List.length_take]; omega
  have e2 : (D.take (c + 1)).length = c + 1 := by rw [List.length_take]; omega
  have e3 : (l.take lo ++ ints (D.take c)).length = lo + c := by rw [List.length_append, List.length_take, ints_len, e1]; omega
  have e4 : l.drop (lo + c) = l[lo + c] :: l.drop (lo + c + 1) := (List.getElem_cons_drop hl).symm
  rw [e1, e2, take_succ hc, List.set_append_right _ _ (by rw [e3]; exact Nat.le_refl _), e3, Nat.sub_self, e4, List.set_cons_zero]
  simp [ints, Nat.add_assoc]
theorem putAt_put {l : List Int} {D : List Nat} {n k : Nat} (h1 : n + k ≤ l.length) (h2 : n + k ≤ D.length) : putAt (putAt l 0 (D.take n)) n ((D.drop n).take k) = putAt l 0 (D.take (n + k)) := by
  have e1 : (D.take n).length = n := by rw [List.length_take]; omega
  have e2 : ((D.drop n).take k).length = k := by rw [List.length_take, List.length_drop]; omega
  have e3 : (D.take (n + k)).length = n + k := by rw [List.length_take]; omega
  unfold putAt
  rw [e1, e2, e3, List.take_zero, List.nil_append, List.nil_append]
  have t1 : ∀ B : List Int, List.take n (ints (D.take n) ++ B) = ints (D.take n) := fun B => List.take_left' (by rw [ints_len, e1])
  have t2 : ∀ B : List Int, List.drop (n + k) (ints (D.take n) ++ B) = B.drop k := fun B => by
    rw [List.drop_append, List.drop_eq_nil_of_le (by rw [ints_len, e1]; omega), List.nil_append, ints_len, e1, Nat.add_sub_cancel_left]
  rw [t1, t2, List.drop_drop, List.take_add]
  simp only [ints, List.map_append]
  rw [Nat.zero_add, Nat.zero_add]
theorem putAt_all {l : List Int} {D : List Nat} (h : l.length ≤ D.length) : putAt l 0 (D.take l.length) = ints (D.take l.length) := by
  have e : (D.take l.length).length = l.length := by rw [List.length_take]; omega
  unfold putAt
  rw [e, List.take_zero, List.nil_append, Nat.zero_add, List.drop_length, List.append_nil]
theorem putAt_len {l : List Int} {D : List Nat} {n : Nat} (h1 : n ≤ l.length) (h2 : n ≤ D.length) : (putAt l 0 (D.take n)).length = l.length := by
  unfold putAt
  rw [List.take_zero, List.nil_append, List.length_append, ints_len, List.length_drop, List.length_take]
  omega
theorem putAt_nil (l : List Int) (lo : Nat) : putAt l lo [] = l := by
  unfold putAt
  simp [ints]
theorem byte_twice : ∀ n : Fin 256, numL (byteBits true (numL (byteBits true n.val))) = n.val := by decide +kernel
theorem byte_at {x : RS} (hP : x.P % 8 = 0) {c bits k : Nat} (hb : bkOK (x.W / 2 ^ (8 * c)) bits k) (hk : 8 ≤ k) {z : Nat} (hz : (x.bs.drop (x.P / 8))[c]? = some z) : bits % 256 = numL (byteBits x.big z) := by
  rw [List.getElem?_drop] at hz
  rw [byte_mod x.big hz, show 8 * (x.P / 8 + c) = x.P + 8 * c by omega, Nat.pow_add, ← Nat.div_div_eq_div_mul]
  exact bk_val hb hk
theorem bk_step {W bits num c : Nat} (hb : bkOK (W / 2 ^ (8 * c)) bits (num - 8 * c)) (h : 8 * c + 8 ≤ num) : bkOK (W / 2 ^ (8 * (c + 1))) (bits / 2 ^ 8) (num - 8 * (c + 1)) := by
  have := bk_less hb (nb := 8) (by omega)
  rw [Nat.div_div_eq_div_mul, ← Nat.pow_add] at this
  rw [show 8 * (c + 1) = 8 * c + 8 by omega, show num - (8 * c + 8) = num - 8 * c - 8 by omega]
  exact this
theorem putAt_length {l : List Int} {lo : Nat} {bs : List Nat} (h : lo + bs.length ≤ l.length) : (putAt l lo bs).length = l.length := by
  unfold putAt
  rw [List.length_append, List.length_append, ints_len, List.length_drop, List.length_take]
  omega
end Pc
/-
  The contract of ReadAtLeast, over a reader of bits.
-/
set_option linter.unusedVariables false
set_option maxRecDepth 100000
open Go Go.Vg Go.Proofs
namespace Pc
structure c145OK (x : RS) (l : List Int) : Prop where
  w : rsW x
  ok : 0 < x.num → rsOK x
  al : x.P % 8 = 0
/-- The row was filled. -/
structure full145 (x : RS) (n : Nat) (v : RV) : Prop where
  w : rsW (x.adv v (8 * n))
  ok : 0 < v.num → rsOK (x.adv v (8 * n))
  all : x.P + 8 * n ≤ 8 * x.bs.length
/-- The bytes ended ahead of that. -/
structure ends145 (x : RS) (l : List Int) (v : RV) (n : Nat) (row : List Int) : Prop where
  w : rsW (x.adv v (8 * n))
  all : 8 * x.bs.length < x.P + 8 * l.length
def c145 (G : Gl) (P : Nat) : Ctr TT where
  X := RS × Value × List Int
  find a H := match a, H with
    | [.i 113 (.p 2 _ (.lit 0)), .o 5 5 bx _, _], [a0, a1, a2, a3, a4, .O _ 5 l] => match getRS P [a0, a1, a2, a3, a4] with
      | some x => some (x, bx, l)
      | none => none
    | _, _ => none
  phi x := c145OK x.1 x.2.2
  args x := [.i 113 (.p 2 x.1.rb (.lit 0)), .o 5 5 x.2.1 x.2.2.length, iv .i64 x.2.2.length]
  H x := x.1.H ++ [.O x.2.1 5 x.2.2]
  outs := [
    { Y := fun _ => RV, psi := fun x y => full145 x.1 x.2.2.length y, res := fun x y => .t [iv .i64 x.2.2.length, .v .nilIface], H := fun x y => (x.1.put y).H ++ [.O x.2.1 5 (ints ((x.1.bs.drop (x.1.P / 8)).take x.2.2.length))] },
    { Y := fun _ => RV × Nat × Addr × List Int, psi := fun x y => ends145 x.1 x.2.2 y.1 y.2.1 y.2.2.2, res := fun x y => .t [iv .i64 y.2.1, .v (errV y.2.2.1)], H := fun x y => (x.1.put y.1).H ++ [.O x.2.1 5 y.2.2.2] }]
structure at145 (x : RS) (l : List Int) (v : RV) (n : Nat) : Prop where
  w : rsW (x.adv v (8 * n))
  ok : 0 < v.num → rsOK (x.adv v (8 * n))
  all : x.P + 8 * n ≤ 8 * x.bs.length
  le : n ≤ l.length
noncomputable def a145 (x : RS) (bx : Value) (l : List Int) : Ann TT := fun r S => match r with
  | 3 => some {
    X := RV × Nat
    phi := fun y => at145 x l y.1 y.2
    fr := fun y => [(6, iv .i64 y.2), (7, .v .nilIface)]
    H := fun y => (x.put y.1).H3 ++ [(5, .O bx 5 (putAt l 0 ((x.bs.drop (x.P / 8)).take y.2)))]
    mu := fun y => l.length - y.2
    alt := fun S => match S.get 7 with
      | some (.v .nilIface) => false
      | _ => true }
  | _ => none
noncomputable def b145 (G : Gl) : Nat → Option (PT TT)
  | 230 => some (exPT fun P => loc [none, none] (c230 G P).pt)
  | _ => none
theorem rsW_m {x y : RS} (h : rsW x) (e : y = { x with m := y.m, rel := y.rel }) : rsW y := by
  rw [e]
  exact ⟨h.bytes, h.len, h.n, h.al, h.end_, h.off, h.pos, h.arr, h.pk, h.bv, h.cov, h.dis, h.fed⟩
theorem at145_ok {x : RS} {l : List Int} {v : RV} {n : Nat} (h : at145 x l v n) (hP : x.P % 8 = 0) (m : Fz) {row : List Int} (hr : row.length = l.length) {bx va : Value} : c230OK { x.adv v (8 * n) with m := m } ⟨bx, row, n, l.length, va⟩ where
  w := rsW_m h.w rfl
  ok := fun h0 => rs_m (h.ok h0) rfl
  al := by show (x.P + 8 * n) % 8 = 0; omega
  room := ⟨h.le, by show l.length ≤ row.length; omega⟩
theorem at145_next {x : RS} {l : List Int} {v : RV} {n : Nat} (h : at145 x l v n) {m : Fz} {b : BF} {u : RV} {k : Nat} (hu : read230 { x.adv v (8 * n) with m := m } b u k) (hb : b.hi - b.lo = l.length - n) : at145 x l u (n + k) where
  w := by
    refine rsW_m hu.w ?_
    unfold RS.adv RS.put
    simp only [Nat.mul_add, Nat.add_assoc]
  ok := fun h0 => by
    refine rs_m (hu.ok h0) ?_
    unfold RS.adv RS.put
    simp only [Nat.mul_add, Nat.add_assoc]
  all := by
    have h1 : x.P + 8 * n + 8 * k ≤ 8 * x.bs.length := hu.all
    omega
  le := by
    have := hu.room
    have := h.le
    omega
theorem at145_eof {x : RS} {l : List Int} {v : RV} {n : Nat} (h : at145 x l v n) (hn : n < l.length) {m : Fz} {u : RV} (hu : eof230 { x.adv v (8 * n) with m := m } u) {row : List Int} : ends145 x l u n row where
  w := rsW_m hu.w rfl
  all := by
    have h1 : x.P + 8 * n = 8 * x.bs.length := hu.all
    omega
end Pc
/-
  Contracts of the pieces of readParts.
-/
set_option linter.unusedVariables false
set_option maxRecDepth 100000
open Go Go.Vg Go.Proofs
namespace Pc
/-! codes, rangeCodes -/
def c62 : Ctr TT where
  X := Fz × Rel TT × Value × List Nat
  find a H := match a, H with
    | [.ro 90 x l], [.F m, .R rel] => some (m, rel, x, lensOf l)
    | _, _ => none
  phi x := x.2.2.2.length ≤ 60
  args x := [.ro 90 x.2.2.1 (canonL x.2.2.2)]
  H x := fr2 x.1 x.2.1
  outs := [{ Y := fun _ => Value, psi := fun x _ => True, res := fun x y => .ro 210 y (canonL x.2.2.2), H := fun x _ => fr2 x.1 x.2.1 }]
noncomputable def a62 (ns : List Nat) : Ann TT := fun r S => match r with
  | 3 => match S.get 3 with
    | some (.o h 210 _ _) => some {
      X := Nat × Value
      phi := fun y => y.1 ≤ ns.length
      fr := fun y => [(3, .o h 210 y.2 y.1), (9, iv .i64 y.1)]
      H := fun y => [(h, .O y.2 210 ((canonL ns).take y.1))]
      mu := fun y => ns.length - y.1 }
    | _ => some {
      pre := [.own 3 210]
      X := Nat × Value
      phi := fun y => y.1 ≤ ns.length
      fr := fun y => [(3, .o 2 210 y.2 y.1), (9, iv .i64 y.1)]
      H := fun y => [(2, .O y.2 210 ((canonL ns).take y.1))]
      mu := fun y => ns.length - y.1 }
  | _ => none
def c64 : Ctr TT where
  X := Fz × Rel TT × Value × List Nat
  find a H := match a, H with
    | [.ro 97 x l], [.F m, .R rel] => some (m, rel, x, extraOf l)
    | _, _ => none
  phi x := x.2.2.2.length ≤ 30
  args x := [.ro 97 x.2.2.1 (rgL 0 x.2.2.2)]
  H x := fr2 x.1 x.2.1
  outs := [{ Y := fun _ => Value, psi := fun x _ => True, res := fun x y => .ro 215 y (rgL 0 x.2.2.2), H := fun x _ => fr2 x.1 x.2.1 }]
noncomputable def a64 (ns : List Nat) : Ann TT := fun r S => match r with
  | 3 => some {
      pre := [.own 3 215]
      X := Nat × Value
      phi := fun y => y.1 ≤ ns.length
      fr := fun y => [(3, .o 2 215 y.2 y.1), (8, iv .i64 y.1)]
      H := fun y => [(2, .O y.2 215 ((rgL 0 ns).take y.1))]
      mu := fun y => ns.length - y.1 }
  | _ => none
end Pc
/-
  The contract of ReadOffset.
-/
set_option linter.unusedVariables false
set_option maxRecDepth 100000
open Go Go.Vg Go.Proofs
namespace Pc
/-- The bits ended on the way. -/
structure lacks2 (x : RS) (n : Nat) (v : RV) : Prop where
  ok : ∃ k, rsOK (x.adv v k)
  all : 8 * x.bs.length < x.P + n
structure ends1 (x : RS) (lens : List Nat) (v : RV) : Prop where
  all : 8 * x.bs.length < x.P + cl lens x.W
  ok : rsOK (x.put v)
structure ends2 (x : RS) (lens ex : List Nat) (v : RV) : Prop where
  one : x.P + cl lens x.W ≤ 8 * x.bs.length
  two : lacks2 x (cl lens x.W + ex.getD (cd lens x.W) 0) v
structure c106OK (x : RS) (lens : List Nat) (d : DC) (ex : List Nat) : Prop where
  ok : rsOK x
  dec : decOK x.rel lens d
  len : ex.length ≤ 30
  small : ∀ n ∈ ex, n ≤ 20
  has : cl lens x.W ≤ 8 * x.bs.length - x.P → cd lens x.W < ex.length
def c106 (G : Gl) (P : Nat) (lens : List Nat) : Ctr TT where
  X := RS × DC × Value × List Nat
  find a H := match a, H with
    | [.p 2 _ (.lit 0), .p 5 _ (.lit 0), .ro 215 rv rl], [a0, a1, a2, a3, a4, a5] => match getRS P [a0, a1, a2, a3, a4], getDC a5 with
      | some x, some d => some (x, d, rv, extraOf rl)
      | _, _ => none
    | _, _ => none
  phi x := c106OK x.1 lens x.2.1 x.2.2.2
  args x := [.p 2 x.1.rb (.lit 0), .p 5 x.2.1.db (.lit 0), .ro 215 x.2.2.1 (rgL 0 x.2.2.2)]
  H x := x.1.H ++ [.B x.2.1.db 201 (segD x.2.1)]
  outs := [{ Y := fun _ => RV, psi := fun x y => took x.1 (cl lens x.1.W + x.2.2.2.getD (cd lens x.1.W) 0) y, res := fun x _ => iv .u64 (sum2 (x.2.2.2.take (cd lens x.1.W)) + x.1.W / 2 ^ cl lens x.1.W % 2 ^ x.2.2.2.getD (cd lens x.1.W) 0), H := fun x y => (x.1.put y).H ++ [.B x.2.1.db 201 (segD x.2.1)] }]
  pans := [
    { Y := fun _ => RV × Nat, psi := fun x y => ends1 x.1 lens y.1, res := fun x y => .i 264 (.a [.c (.p 6 y.2 (.lit 0))]), H := fun x y => (x.1.put y.1).H ++ [.B x.2.1.db 201 (segD x.2.1), errEnt G y.2] },
    { Y := fun _ => RV × Nat × Nat × Int × Int, psi := fun x y => ends2 x.1 lens x.2.2.2 y.1, res := fun x y => .i 264 (.a [.c (.p 7 y.2.1 (.lit 0))]), H := fun x y => (x.1.put y.1).H ++ [.B x.2.1.db 201 (segD x.2.1), .B y.2.2.1 215 [.c (.v (.int .u32 y.2.2.2.1)), .c (.v (.int .u32 y.2.2.2.2))], errEnt G y.2.1] }]
noncomputable def b106 (G : Gl) (lens : List Nat) : Nat → Option (PT TT)
  | 105 => some (exPT fun P => loc [none, none] (c105 G P lens).pt)
  | 103 => some (exPT fun P => loc [none, none] (c103 G P).pt)
  | _ => none
end Pc
/-
  The contract of readParts.
-/
set_option linter.unusedVariables false
set_option maxRecDepth 100000
open Go Go.Vg Go.Proofs
namespace Pc
theorem isRo_mono {r r' : Rel TT} (h : relLe r r') {e : TypeId} {v : Value} {l : List (TT.El e)} (k : isRo r e v l) : isRo r' e v l := by
  rcases k with k | k
  · exact .inl (h _ _ _ k)
  · exact .inr k
theorem decOK_mono {r r' : Rel TT} (h : relLe r r') {lens : List Nat} {d : DC} (k : decOK r lens d) : decOK r' lens d :=
  ⟨k.good, k.cb, k.cm, k.len, k.mb, k.short, fun v hv => by
    obtain ⟨a, sl, tb, lb, h1, h2, h3, h4, h5⟩ := k.long v hv
    exact ⟨a, sl, tb, lb, h1, h2, h3, isRo_mono h h4, h5⟩⟩
structure X53 where
  x : RS
  vl : Value
  l : List Pt
  vc : Value
  vr : Value
  extra : List Nat
def X53.xrr (x : X53) (lens : List Nat) (r : Rel TT) : XR := ⟨x.x.m, r, x.vl, x.l, x.vc, lens, x.vr, x.extra, x.x.vs, x.x.bs, x.x.big⟩
def X53.xr (x : X53) (lens : List Nat) : XR := x.xrr lens x.x.rel
theorem bad_r {x : X53} {lens : List Nat} {r : Rel TT} (h : bad20 (x.xrr lens r)) : bad20 (x.xr lens) := h
structure c53OK (lens : List Nat) (x : X53) : Prop where
  ok : rsOK x.x
  P0 : x.x.P = 0
  xr : xrOK (x.xr lens)
  run : ¬ bad20 (x.xr lens)
/-- The reader, within another frame. -/
def RS.re (x : RS) (v : RV) (P : Nat) (rel : Rel TT) : RS := { x.adv v P with rel := rel }
structure ps53 (lens : List Nat) (x : X53) (y : Y20) (v : RV) : Prop where
  ps : ps20 (x.xr lens) y
  w : ∃ P, rsW (x.x.adv v P)
/-- A reader as Init leaves it. -/
def getRS0 : List (Ent TT) → Option RS
  | [.F m, .R rel, .B rb 108 [.c (.v (.int _ off)), .c (.i 110 (.p 3 sb _)), .c (.v .nilIface), .c (.i 105 (.p 4 bb _)), .c (.v (.int _ bits)), .c (.v (.int _ num)), .c (.v (.bool big)), .c (.v pk), .c (.v (.int _ dis)), .c (.v (.int _ fed)), _, _, _],
      .B _ 198 [.c (.ro 5 vs l), .c (.v (.int _ i)), .c (.v (.int _ prev))], .B _ 190 [.c (.p 3 _ _), .c (.v (.int _ pos)), .c (.v bv), .r 5 512 arr]] =>
    some ⟨m, rel, rb, sb, bb, vs, nats l, big, 0, off.toNat, bits.toNat, num.toNat, pk, 0, dis, fed.toNat, pos.toNat, bv, 0, arr, prev⟩
  | _ => none
def c53 (G : Gl) (lens : List Nat) : Ctr TT where
  X := X53
  find a H := match a with
    | [.p 2 _ (.lit 0), .ro 36 vl l, .ro 90 vc _, .ro 97 vr r, .v (.bool false)] => match getRS 0 H with
      | some x => some ⟨x, vl, l, vc, vr, extraOf r⟩
      | none => match getRS0 H with
        | some x => some ⟨x, vl, l, vc, vr, extraOf r⟩
        | none => none
    | _ => none
  phi x := c53OK lens x
  args x := [.p 2 x.x.rb (.lit 0), .ro 36 x.vl x.l, .ro 90 x.vc (canonL lens), .ro 97 x.vr (rgL 0 x.extra), bv false]
  H x := x.x.H
  outs := [{
    Y := fun _ => Y20 × RV
    psi := fun x y => ps53 lens x y.1 y.2
    res := fun x y => .t [.ro 36 y.1.gv y.1.gl, .v (.int .i64 (wrong y.1.st y.1.gl.length)), iv .i64 (8 * x.x.bs.length - y.1.left)]
    H := fun x y => (x.x.re y.2 0 y.1.rel).H }]
structure Y53 where
  i : Nat
  gx : Value
  gl : List Pt
  rel : Rel TT
  its : List RIt
  P : Nat
  v : RV
structure ph53 (lens : List Nat) (x : X53) (r1 : Rel TT) (y : Y53) : Prop where
  ph : ph20 (x.xrr lens r1) ⟨y.i, y.gx, y.gl, y.rel, y.its, (bitsOf x.x.big x.x.bs).drop y.P, .nilIface⟩
  P : y.P ≤ 8 * x.x.bs.length
  w : rsW (x.x.adv y.v y.P)
  ok : 0 < y.v.num → rsOK (x.x.adv y.v y.P)
  no : pb x.l y.i = false → rsOK (x.x.adv y.v y.P)
noncomputable def inv53 (lens : List Nat) (x : X53) (r1 : Rel TT) (h : Nat) : Inv TT where
  pre := [.own 10 36]
  X := Y53
  phi := fun y => ph53 lens x r1 y
  fr := fun y => [(10, .o h 36 y.gx y.gl.length), (25, iv .i64 y.i), (12, iv .i64 y.P)]
  H := fun y => (1, .R y.rel) :: (x.x.put y.v).H3 ++ [(h, .O y.gx 36 y.gl)]
  mu := fun y => x.l.length - y.i
/-- A claim that nothing meets (of a way that is not gone). -/
def invNone : Inv TT where
  X := Unit
  phi := fun _ => False
  fr := fun _ => [(9999, .un)]
  H := fun _ => []
  mu := fun _ => 0
noncomputable def a53 (lens : List Nat) (x : X53) : Ann TT := fun r S => match r, S.H with
  | 6, _ :: .R r1 :: _ => match S.ent 9 with
    | .B _ _ (.c (.ro _ _ _) :: _) => some (inv53 lens x r1 S.H.length)
    | _ => some invNone
  | _, _ => none
noncomputable def b53 (G : Gl) (lens : List Nat) : Nat → Option (PT TT)
  | 62 => some (loc [some 90] c62.pt)
  | 64 => some (loc [some 97] c64.pt)
  | 100 => some (loc [none, some 210] c100.pt)
  | 103 => some (exPT fun P => loc [none, none] (c103 G P).pt)
  | 105 => some (exPT fun P => loc [none, none] (c105 G P lens).pt)
  | 106 => some (exPT fun P => loc [none, none, some 215] (c106 G P lens).pt)
  | 107 => some (exPT fun P => loc [none] (c107 P).pt)
  | 109 => some (exPT fun P => loc [none] (c109 P).pt)
  | 145 => some (exPT fun P => loc [none, none, none] (c145 G P).pt)
  | _ => none
theorem extraOf_rgL : ∀ (l : List Nat) (b : Nat), extraOf (rgL b l) = l
  | [], _ => rfl
  | n :: r, b => by
    have := extraOf_rgL r (b + 2 ^ n)
    unfold extraOf at this
    unfold extraOf rgL
    rw [List.map_cons, this]
    simp
def Y53.B (x : X53) (y : Y53) : List Nat := (bitsOf x.x.big x.x.bs).drop y.P
theorem len53 {lens : List Nat} {x : X53} {r1 : Rel TT} {y : Y53} (h : ph53 lens x r1 y) : (y.B x).length = 8 * x.x.bs.length - y.P := by
  unfold Y53.B
  rw [List.length_drop, bitsOf_len]
theorem lt53 (x : X53) (y : Y53) : ∀ b ∈ y.B x, b < 2 := fun b hb => bitsOf_lt _ _ b (List.mem_of_mem_drop hb)
theorem num53 {lens : List Nat} {x : X53} {r1 : Rel TT} {y : Y53} (h : ph53 lens x r1 y) : numL (y.B x) = numL (bitsOf x.x.big x.x.bs) / 2 ^ y.P := by
  unfold Y53.B
  rw [numL_drop (bitsOf_lt _ _) (by rw [bitsOf_len]; exact h.P)]
theorem behind53 {lens : List Nat} {x : X53} {r1 : Rel TT} {y : Y53} (hx : ¬ bad20 (x.xr lens)) (h : ph53 lens x r1 y) {p : Pt} (hp : x.l[y.i]? = some p) : pb x.l y.i = true → p.kind = 4 := by
  intro hb
  refine Decidable.byContradiction fun hk => hx ?_
  exact bad_r (ph20_behind h.ph hp hb hk)
theorem bad53 {lens : List Nat} {x : X53} {r1 : Rel TT} {y : Y53} (hx : ¬ bad20 (x.xr lens)) (h : ph53 lens x r1 y) {p : Pt} (hp : x.l[y.i]? = some p) : stepM lens x.extra x.x.bs (y.B x) p ≠ .bad := fun hs => hx (bad_r (ph20_bad h.ph hp (behind53 hx h hp) hs))
theorem next53 {lens : List Nat} {x : X53} {r1 : Rel TT} {y : Y53} (hx : ¬ bad20 (x.xr lens)) (h : ph53 lens x r1 y) {p : Pt} (hp : x.l[y.i]? = some p) {it : RIt} {n : Nat} (hs : stepM lens x.extra x.x.bs (y.B x) p = .got it n)
    {gx : Value} {rel : Rel TT} {q : Pt} {u : RV} (hr : relLe y.rel rel) (hq : itOK rel it q) (hP : y.P + n ≤ 8 * x.x.bs.length) (hw : rsW (x.x.adv u (y.P + n))) (hok : 0 < u.num → rsOK (x.x.adv u (y.P + n))) (hno : p.kind ≠ 4 → rsOK (x.x.adv u (y.P + n))) :
    ph53 lens x r1 ⟨y.i + 1, gx, y.gl ++ [q], rel, y.its ++ [it], y.P + n, u⟩ where
  ph := by
    have := ph20_next (gx := gx) (w := .nilIface) h.ph hp (behind53 hx h hp) hs hr hq
    dsimp only at this
    rw [List.drop_drop] at this
    exact this
  P := hP
  w := hw
  ok := hok
  no := fun hb => hno fun hk => by rw [pb_next hp, hk] at hb; simp at hb
theorem stop53 {lens : List Nat} {x : X53} {r1 : Rel TT} {y : Y53} (hx : ¬ bad20 (x.xr lens)) (hr1 : relLe x.x.rel r1) (h : ph53 lens x r1 y) {p : Pt} (hp : x.l[y.i]? = some p) (hs : stepM lens x.extra x.x.bs (y.B x) p = .stop)
    {gv : Value} {rel : Rel TT} (hr : relLe y.rel rel) {u : RV} (hw : ∃ P, rsW (x.x.adv u P)) : ps53 lens x ⟨gv, y.gl, rel, y.its, true, 8 * x.x.bs.length - y.P⟩ u where
  ps := by
    have := ph20_stop (gv := gv) h.ph hp (behind53 hx h hp) hs hr
    dsimp only at this
    rw [show ((bitsOf x.x.big x.x.bs).drop y.P).length = 8 * x.x.bs.length - y.P from len53 h] at this
    exact ⟨this.run, this.its, hr1.trans this.rel, this.left, this.len⟩
  w := hw
theorem end53 {lens : List Nat} {x : X53} {r1 : Rel TT} {y : Y53} (hr1 : relLe x.x.rel r1) (h : ph53 lens x r1 y) (hi : y.i = x.l.length) {gv : Value} : ps53 lens x ⟨gv, y.gl, y.rel, y.its, false, 8 * x.x.bs.length - y.P⟩ y.v where
  ps := by
    have := ph20_end (gv := gv) h.ph hi
    dsimp only at this
    rw [show ((bitsOf x.x.big x.x.bs).drop y.P).length = 8 * x.x.bs.length - y.P from len53 h] at this
    exact ⟨this.run, this.its, hr1.trans this.rel, this.left, this.len⟩
  w := ⟨_, h.w⟩
theorem start53 {lens : List Nat} {x : X53} {r1 : Rel TT} (hx : c53OK lens x) (hr1 : relLe x.x.rel r1) : ph53 lens x r1 ⟨0, .slice none 0 0, [], r1, [], 0, ⟨x.x.off, x.x.bits, x.x.num, x.x.pk, x.x.pkn, x.x.dis, x.x.fed, x.x.pos, x.x.bv, x.x.bn, x.x.arr, x.x.prev⟩⟩ where
  ph := {
    i := Nat.zero_le _
    rel := relLe.refl _
    its := trivial
    len := rfl
    bit := fun b hb => bitsOf_lt _ _ b hb
    all := by show (bitsOf x.x.big x.x.bs).length ≤ 8 * x.x.bs.length; rw [bitsOf_len]; exact Nat.le_refl _
    run := by
      show readM lens x.extra x.x.bs x.l (bitsOf x.x.big x.x.bs) false = pref [] (readM lens x.extra x.x.bs x.l (bitsOf x.x.big x.x.bs) false)
      rcases readM lens x.extra x.x.bs x.l (bitsOf x.x.big x.x.bs) false with _ | ⟨a, b, c⟩ <;> rfl }
  P := Nat.zero_le _
  w := hx.ok.w
  ok := fun _ => hx.ok
  no := fun _ => hx.ok
theorem len_gl {lens : List Nat} {x : X53} {r1 : Rel TT} {y : Y53} (h : ph53 lens x r1 y) : y.gl.length = y.i := h.ph.len
/-! What a step reads. -/
theorem step0 {lens extra bs B : List Nat} {p : Pt} (hk : p.kind = 0) (hb : ∀ b ∈ B, b < 2) : stepM lens extra bs B p = if B.length < p.n.toNat then .stop else .got ⟨0, numL B % 2 ^ p.n.toNat, []⟩ p.n.toNat := by
  unfold stepM
  rw [if_pos hk]
  split
  · rfl
  · rw [numL_take hb (by omega)]
theorem step1 {lens extra bs B : List Nat} {p : Pt} (hk : p.kind = 1) : stepM lens extra bs B p = if cl lens (numL B) ≤ B.length then .got ⟨1, cd lens (numL B), []⟩ (cl lens (numL B)) else .stop := by
  unfold stepM symM
  rw [if_neg (by omega), if_pos hk]
  by_cases h : cl lens (numL B) ≤ B.length
  · rw [if_pos h, if_pos h]; rfl
  · rw [if_neg h, if_neg h]
theorem step2 {lens extra bs B : List Nat} {p : Pt} (hk : p.kind = 2) (hb : ∀ b ∈ B, b < 2) : stepM lens extra bs B p = if cl lens (numL B) ≤ B.length then (if extra.length ≤ cd lens (numL B) then .bad else if B.length < cl lens (numL B) + extra.getD (cd lens (numL B)) 0 then .stop
      else .got ⟨2, sum2 (extra.take (cd lens (numL B))) + numL B / 2 ^ cl lens (numL B) % 2 ^ extra.getD (cd lens (numL B)) 0, []⟩ (cl lens (numL B) + extra.getD (cd lens (numL B)) 0)) else .stop := by
  unfold stepM symM
  rw [if_neg (by omega), if_neg (by omega), if_pos hk]
  by_cases h : cl lens (numL B) ≤ B.length
  · rw [if_pos h, if_pos h]
    dsimp only
    have e : lens.getD (cd lens (numL B)) 0 = cl lens (numL B) := rfl
    rw [e]
    by_cases h2 : extra.length ≤ cd lens (numL B)
    · rw [if_pos h2, if_pos h2]
    · rw [if_neg h2, if_neg h2]
      by_cases h3 : B.length < cl lens (numL B) + extra.getD (cd lens (numL B)) 0
      · rw [if_pos (by omega), if_pos h3]
      · rw [if_neg (by omega), if_neg h3, numL_take (fun b hb' => hb b (List.mem_of_mem_drop hb')) (by rw [List.length_drop]; omega), numL_drop hb h]
        have hi : cd lens (numL B) < (rgL 0 extra).length := by rw [rgL_len]; omega
        obtain ⟨n, h4, h5⟩ := rgL_sum (List.getElem?_eq_getElem hi)
        have e2 : (rgL 0 extra).getD (cd lens (numL B)) ⟨0, 0⟩ = (rgL 0 extra)[cd lens (numL B)] := by
          rw [List.getD_eq_getElem?_getD, List.getElem?_eq_getElem hi]; rfl
        rw [e2, h5]
        simp
  · rw [if_neg h, if_neg h]
theorem step3 {lens extra bs B : List Nat} {p : Pt} (hk : p.kind = 3) (hb : ∀ b ∈ B, b < 2) : stepM lens extra bs B p = .got ⟨3, numL B % 2 ^ (B.length % 8), []⟩ (B.length % 8) := by
  unfold stepM
  rw [if_neg (by omega), if_neg (by omega), if_neg (by omega), if_pos hk, numL_take hb (Nat.mod_le _ _)]
theorem step4 {lens extra bs B : List Nat} {p : Pt} (hk : p.kind = 4) : stepM lens extra bs B p = if B.length % 8 ≠ 0 then .bad else if B.length / 8 < p.n.toNat then .stop else .got ⟨4, 0, (bs.drop (bs.length - B.length / 8)).take p.n.toNat⟩ (8 * p.n.toNat) := by
  unfold stepM
  rw [if_neg (by omega), if_neg (by omega), if_neg (by omega), if_neg (by omega), if_pos hk]
theorem isRo_nil {r : Rel TT} : isRo r 5 (slN.val) (ints []) := .inr ⟨rfl, rfl⟩
theorem adv0 {x : RS} (h : x.P = 0) (v : RV) (P : Nat) : x.adv v P = { x.put v with P := P } := by
  unfold RS.adv
  rw [h, Nat.zero_add]
theorem decOK_db {r : Rel TT} {lens : List Nat} {d : DC} (k : decOK r lens d) (b : Nat) : decOK r lens ⟨b, d.cv, d.ch, d.lv, d.lk, d.cm, d.lm, d.cb, d.mb, d.ns⟩ :=
  ⟨k.good, k.cb, k.cm, k.len, k.mb, k.short, k.long⟩
theorem room48 {n : Nat} (h : n ≤ 60) : room (n + 1) 48 := ⟨by omega, by omega⟩
theorem mnI_small {n : Int} (h0 : 0 ≤ n) (h : n ≤ 40) : mnI n 100000 = ((n.toNat : Nat) : Int) := by
  unfold mnI
  rw [if_neg (by omega)]; omega
theorem isRo_row {r : Rel TT} {v : Value} {A : Option Addr} {n c : Nat} (hv : v = .slice A n c) {l : List Nat} (hl : l.length = n) : isRo (relAdd r 5 v (ints l)) 5 (Sl.val ⟨A, n, c⟩) (ints l) := by
  subst hv
  refine .inl (.inr ⟨rfl, 0, n, Nat.zero_le _, ?_, (sliceVal_all A n c _).symm, ?_⟩)
  · show n ≤ (ints l).length
    rw [ints_len]; omega
  · show ints l = ((ints l).take n).drop 0
    rw [List.drop_zero, List.take_of_length_le (by rw [ints_len]; omega)]
end Pc
/-
  Contracts of NewReader and ReadAll.
-/
set_option linter.unusedVariables false
set_option maxRecDepth 100000
open Go Go.Vg Go.Proofs
namespace Pc
def c52 : Ctr TT where
  X := Fz × Rel TT × Value × List Nat
  find a H := match a, H with
    | [.ro 5 v l], [.F m, .R rel] => some (m, rel, v, nats l)
    | _, _ => none
  phi x := True
  args x := [.ro 5 x.2.2.1 (ints x.2.2.2)]
  H x := fr2 x.1 x.2.1
  outs := [{ Y := fun _ => Nat, psi := fun x y => True, res := fun x y => .p 2 y (.lit 0), H := fun x y => [.F x.1, .R x.2.1, .B y 198 (segS x.2.2.1 x.2.2.2 0 (-1))] }]
structure c21OK (x : XR) : Prop where
  ok : xrOK x
  run : ¬ bad20 x
def c21 : Ctr TT where
  X := XR
  find a H := match a, H with
    | [.ro 36 vl l, .ro 90 vc k, .ro 97 vr r, .ro 5 vs bs, .v (.bool big)], [.F m, .R rel] => some ⟨m, rel, vl, l, vc, lensOf k, vr, extraOf r, vs, nats bs, big⟩
    | _, _ => none
  phi := c21OK
  args x := [.ro 36 x.vl x.l, .ro 90 x.vc (canonL x.lens), .ro 97 x.vr (rgL 0 x.extra), .ro 5 x.vs (ints x.bs), bv x.big]
  H x := fr2 x.m x.rel
  outs := [{
    Y := fun _ => Y20
    psi := fun x y => ps20 x y
    res := fun x y => .t [.ro 36 y.gv y.gl, .v (.int .i64 (wrong y.st y.gl.length)), iv .i64 (8 * x.bs.length - y.left)]
    H := fun x y => fr2 x.m y.rel }]
noncomputable def b21 (G : Gl) : Nat → Option (PT TT)
  | 52 => some (giv [true] (loc [some 5] c52.pt))
  | 53 => some (exPT fun lens => loc [none, some 36, some 90, some 97, none] (c53 G lens).pt)
  | _ => none
end Pc
/-
  The contract of prefixAwake, and of FnRead.
-/
set_option linter.unusedVariables false
set_option maxRecDepth 100000
open Go Go.Vg Go.Proofs
namespace Pc
/-- The context of a run whose numbers are all known. -/
noncomputable def CK (G : Gl) : Ctx TT := { CC G with conc := true }
theorem spec_KC {G : Gl} {f : Nat} {pt : PT TT} (hs : SpecOK (CK G) f pt) : SpecOK (CC G) f pt := ⟨hs.enters, fun args H K Kp w hp hI => by
  have := hs.calls args H K Kp w hp ⟨⟨hI.1.ents, hI.1.apart, hI.1.lt, hI.1.glob⟩, hI.2⟩
  refine this.mono ?_
  rintro e w' (⟨r, H', he, hk, hH', hr, hst⟩ | ⟨r, H', he, hk, hH', hr, hst⟩)
  · exact .inl ⟨r, H', he, hk, ⟨hH'.ents, hH'.apart, hH'.lt, hH'.glob⟩, hr, hst⟩
  · exact .inr ⟨r, H', he, hk, ⟨hH'.ents, hH'.apart, hH'.lt, hH'.glob⟩, hr, hst⟩⟩
noncomputable def INK (G : Gl) : Nat → Option (PT TT) := inl (CK G) no (bodyW NA) 12
theorem specK (G : Gl) {f : Nat} {fn : Func} (hf : fnOf f = some fn) (c : Ctr TT)
    (h : ∀ x, c.phi x → Met (fnx (CK G) (INK G) noAnn fn (c.args x) (c.H x) (outK true (c.H x).length (c.ret x)) (c.pan x))) : SpecOK (CC G) f c.pt := by
  obtain ⟨h1, h2, h3, h4⟩ := fnOf_ok G f fn hf
  refine spec_KC ?_
  have hz : ZOK (CK G) := zok G
  have hm : (CK G).P.follows .mixedOrders = true := mixed G
  exact ctr_okX hz (inl_ok hz hm (fun f pt h => by cases h) (bodyW_ok G NA) 12) hm h1 h2 h3 h4 true c (fun _ => noAnn) h
def c19 : Ctr TT where
  X := Fz × Rel TT
  find a H := match a, H with
    | [], [.F m, .R rel] => some (m, rel)
    | _, _ => none
  phi x := True
  args x := []
  H x := fr2 x.1 x.2
  outs := [{ Y := fun _ => Unit, psi := fun x y => True, res := fun x y => bv true, H := fun x y => fr2 x.1 x.2 }]
noncomputable def invUpto (gl : List Pt) : Inv TT where
  X := Nat
  phi := fun i => i ≤ gl.length
  fr := fun i => [(20, iv .i64 i)]
  H := fun i => []
  mu := fun i => gl.length - i
structure X3 where
  m : Fz
  rel : Rel TT
  vl : Value
  l : List Pt
  v1 : Value
  ls : List Nat
  v2 : Value
  es : List Nat
  vb : Value
  bs : List Nat
  big : Bool
structure c3OK (x : X3) : Prop where
  ls : ∀ n ∈ x.ls, n < 256
  es : ∀ n ∈ x.es, n < 256
  bs : ∀ n ∈ x.bs, n < 256
  n : ∀ p ∈ x.l, 0 ≤ p.n
def c3 : Ctr TT where
  X := X3
  find a H := match a, H with
    | [.ro 36 vl l, .ro 5 v1 ls, .ro 5 v2 es, .ro 5 vb bs, .v (.bool big)], [.F m, .R rel] => some ⟨m, rel, vl, l, v1, nats ls, v2, nats es, vb, nats bs, big⟩
    | _, _ => none
  phi x := c3OK x
  args x := [.ro 36 x.vl x.l, .ro 5 x.v1 (ints x.ls), .ro 5 x.v2 (ints x.es), .ro 5 x.vb (ints x.bs), bv x.big]
  H x := fr2 x.m x.rel
  outs := [{ Y := fun _ => Rel TT, psi := fun x y => True, res := fun x y => bv true, H := fun x y => fr2 x.m y }]
noncomputable def a3 : Ann TT := fun r S => match r, S.get 17 with
  | 13, some (.ro 36 _ gl) => some (invUpto gl)
  | _, _ => none
noncomputable def b30 : Nat → Option (PT TT)
  | 16 => some (loc [some 36] c16.pt)
  | 17 => some (loc [some 5, some 5] c17.pt)
  | 18 => some (loc [some 36] c18.pt)
  | 19 => some (loc [] c19.pt)
  | 20 => some (loc [some 36, some 90, some 97, some 5, none] c20.pt)
  | _ => none
noncomputable def b3 : Nat → Option (PT TT)
  | 21 => some (loc [some 36, some 90, some 97, some 5, none] c21.pt)
  | f => b30 f
theorem itsOK_get {rel : Rel TT} : ∀ {its : List RIt} {gl : List Pt} {i : Nat} {p : Pt}, itsOK rel its gl → gl[i]? = some p → ∃ it, its[i]? = some it ∧ itOK rel it p
  | [], [], _, _, _, h => by simp at h
  | [], _ :: _, _, _, h, _ => h.elim
  | _ :: _, [], _, _, h, _ => h.elim
  | a :: r, b :: q, 0, p, h, hp => by
    obtain rfl : b = p := by simpa using hp
    exact ⟨a, rfl, h.1⟩
  | a :: r, b :: q, i + 1, p, h, hp => by
    obtain ⟨it, h1, h2⟩ := itsOK_get (i := i) h.2 (by simpa using hp)
    exact ⟨it, by simpa using h1, h2⟩
theorem bytes_ints (l : List Int) : isBytes (List.flatMap (fun n => [Value.int IntKind.u8 n]) l) := by
  intro v hv
  rw [List.mem_flatMap] at hv
  obtain ⟨n, _, h⟩ := hv
  exact ⟨n, by simpa using h⟩
end Pc
/-
  The contracts of TryReadBits, TryReadSymbol, of readParts that tries first, of ReadTry, alike, FnReadTry.
-/
set_option linter.unusedVariables false
set_option maxRecDepth 100000
open Go Go.Vg Go.Proofs
namespace Pc
def c102 (P : Nat) : Ctr TT where
  X := RS × Nat
  find a H := match a with
    | [.p 2 _ (.lit 0), .v (.int .u64 n)] => match getRS P H with
      | some x => some (x, n.toNat)
      | none => none
    | _ => none
  phi x := rsOK x.1 ∧ x.2 ≤ 56
  args x := [.p 2 x.1.rb (.lit 0), iv .u64 x.2]
  H x := x.1.H
  outs := [
    { Y := fun _ => Unit, psi := fun x y => True, res := fun x _ => .t [iv .u64 0, bv false], H := fun x y => x.1.H },
    { Y := fun _ => RV, psi := fun x y => took x.1 x.2 y, res := fun x _ => .t [iv .u64 (x.1.W % 2 ^ x.2), bv true], H := fun x y => (x.1.put y).H }]
def c104 (P : Nat) (lens : List Nat) : Ctr TT where
  X := RS × DC
  find a H := match a, H with
    | [.p 2 _ (.lit 0), .p 5 _ (.lit 0)], [a0, a1, a2, a3, a4, a5] => match getRS P [a0, a1, a2, a3, a4], getDC a5 with
      | some x, some d => some (x, d)
      | _, _ => none
    | _, _ => none
  phi x := rsOK x.1 ∧ decOK x.1.rel lens x.2
  args x := [.p 2 x.1.rb (.lit 0), .p 5 x.2.db (.lit 0)]
  H x := x.1.H ++ [.B x.2.db 201 (segD x.2)]
  outs := [
    { Y := fun _ => Unit, psi := fun x y => True, res := fun x _ => .t [iv .u64 0, bv false], H := fun x y => x.1.H ++ [.B x.2.db 201 (segD x.2)] },
    { Y := fun _ => RV, psi := fun x y => took x.1 (cl lens x.1.W) y, res := fun x _ => .t [iv .u64 (cd lens x.1.W), bv true], H := fun x y => (x.1.put y).H ++ [.B x.2.db 201 (segD x.2)] }]
def c53t (G : Gl) (lens : List Nat) : Ctr TT where
  X := X53
  find a H := match a with
    | [.p 2 _ (.lit 0), .ro 36 vl l, .ro 90 vc _, .ro 97 vr r, .v (.bool true)] => match getRS 0 H with
      | some x => some ⟨x, vl, l, vc, vr, extraOf r⟩
      | none => match getRS0 H with
        | some x => some ⟨x, vl, l, vc, vr, extraOf r⟩
        | none => none
    | _ => none
  phi x := c53OK lens x
  args x := [.p 2 x.x.rb (.lit 0), .ro 36 x.vl x.l, .ro 90 x.vc (canonL lens), .ro 97 x.vr (rgL 0 x.extra), bv true]
  H x := x.x.H
  outs := [{
    Y := fun _ => Y20 × RV
    psi := fun x y => ps53 lens x y.1 y.2
    res := fun x y => .t [.ro 36 y.1.gv y.1.gl, .v (.int .i64 (wrong y.1.st y.1.gl.length)), iv .i64 (8 * x.x.bs.length - y.1.left)]
    H := fun x y => (x.x.re y.2 0 y.1.rel).H }]
noncomputable def b53t (G : Gl) (lens : List Nat) : Nat → Option (PT TT)
  | 102 => some (exPT fun P => loc [none, none] (c102 P).pt)
  | 104 => some (exPT fun P => loc [none, none] (c104 P lens).pt)
  | f => b53 G lens f
def c22 : Ctr TT where
  X := XR
  find a H := match a, H with
    | [.ro 36 vl l, .ro 90 vc k, .ro 97 vr r, .ro 5 vs bs, .v (.bool big)], [.F m, .R rel] => some ⟨m, rel, vl, l, vc, lensOf k, vr, extraOf r, vs, nats bs, big⟩
    | _, _ => none
  phi := c21OK
  args x := [.ro 36 x.vl x.l, .ro 90 x.vc (canonL x.lens), .ro 97 x.vr (rgL 0 x.extra), .ro 5 x.vs (ints x.bs), bv x.big]
  H x := fr2 x.m x.rel
  outs := [{
    Y := fun _ => Y20
    psi := fun x y => ps20 x y
    res := fun x y => .t [.ro 36 y.gv y.gl, .v (.int .i64 (wrong y.st y.gl.length)), iv .i64 (8 * x.bs.length - y.left)]
    H := fun x y => fr2 x.m y.rel }]
noncomputable def b22 (G : Gl) : Nat → Option (PT TT)
  | 52 => some (giv [true] (loc [some 5] c52.pt))
  | 53 => some (exPT fun lens => loc [none, some 36, some 90, some 97, none] (c53t G lens).pt)
  | _ => none
/-- Both hold the same parts. -/
def alikeOK (rel : Rel TT) (a b : List Pt) : Prop := a.length ≤ 60 ∧ ∃ its, itsOK rel its a ∧ itsOK rel its b
def c23 : Ctr TT where
  X := Fz × Rel TT × Value × List Pt × Value × List Pt
  find a H := match a, H with
    | [.ro 36 v l, .ro 36 w k], [.F m, .R rel] => some (m, rel, v, l, w, k)
    | _, _ => none
  phi x := alikeOK x.2.1 x.2.2.2.1 x.2.2.2.2.2
  args x := [.ro 36 x.2.2.1 x.2.2.2.1, .ro 36 x.2.2.2.2.1 x.2.2.2.2.2]
  H x := fr2 x.1 x.2.1
  outs := [{ Y := fun _ => Unit, psi := fun x y => True, res := fun x y => bv true, H := fun x y => fr2 x.1 x.2.1 }]
end Pc
/-
  The sources do what their contracts say.
-/
set_option linter.unusedVariables false
set_option maxRecDepth 100000
open Go Go.Vg Go.Proofs
namespace Pc
def cond_c217 (G : Gl) (x : RB) : Prop :=
 (x.bb = x.bb) ∧ (x.sb = x.sb) ∧ (x.sb = x.sb) ∧ (inI64 ((x.i : Int) + (0 : Int))) ∧ 
 (x.sb = x.sb) ∧ (x.bb = x.bb) ∧ (inI64 ((x.i : Int) + (0 : Int) - (x.pos : Int))) ∧ 
 Br (decide ((x.i : Int) + (0 : Int) - (x.pos : Int) ≥ (0 : Int)))
 ((x.bb = x.bb) ∧ Br (decide ((x.i : Int) + (0 : Int) - (x.pos : Int) < (x.bn : Int)))
 ((x.bb = x.bb) ∧ ((0 : Int) ≤ (x.i : Int) + (0 : Int) - (x.pos : Int) ∧ (x.i : Int) + (0 : Int) - (x.pos : Int) ≤ (x.bn : Int) ∧ (x.bn : Int) ≤ (↑(capVal x.bv) : Int)) ∧ 
 (x.bb = x.bb) ∧ (x.bb = x.bb) ∧ ∃ x1 : (Value × Nat), (x1.2 = x.bn - (x.i - x.pos) ∧ vw x.bb x.arr x.bs x1.1 x1.2 x.i) ∧ 
 (x.m = x.m) ∧ 
 (relLe x.rel x.rel) ∧ 
 (x.bb = x.bb) ∧ 
 (x.sb = x.sb ∧ Off.lit 0 = Off.lit 0) ∧ 
 ((x.i : Int) + (0 : Int) = (x.i : Int)) ∧ 
 (sliceVal x.bv (Int.toNat ((x.i : Int) + (0 : Int) - (x.pos : Int))) (Int.toNat (x.bn : Int)) 1 = x1.1 ∧ Int.toNat (x.bn : Int) - Int.toNat ((x.i : Int) + (0 : Int) - (x.pos : Int)) = x1.2) ∧ 
 ((512 : Nat) = (512 : Nat) ∧ x.arr = x.arr) ∧ 
 (x.sb = x.sb) ∧ 
 (x.vs = x.vs ∧ ints x.bs = ints x.bs) ∧ 
 ((x.i : Int) + (0 : Int) = (x.i : Int)) ∧ 
 ((-1 : Int) = (-1 : Int)) ∧ 
 (True))
 ((x.bb = x.bb) ∧ (x.bb = x.bb) ∧ ∃ x1 : (Value × Nat), (x1.2 = x.bn - (x.i - x.pos) ∧ vw x.bb x.arr x.bs x1.1 x1.2 x.i) ∧ 
 (x.m = x.m) ∧ 
 (relLe x.rel x.rel) ∧ 
 (x.bb = x.bb) ∧ 
 (x.sb = x.sb ∧ Off.lit 0 = Off.lit 0) ∧ 
 ((x.i : Int) + (0 : Int) = (x.i : Int)) ∧ 
 (Value.slice none 0 0 = Value.slice none 0 0 ∧ Value.slice none 0 0 = x1.1 ∧ x1.2 = (0 : Nat)) ∧ 
 ((512 : Nat) = (512 : Nat) ∧ x.arr = x.arr) ∧ 
 (x.sb = x.sb) ∧ 
 (x.vs = x.vs ∧ ints x.bs = ints x.bs) ∧ 
 ((x.i : Int) + (0 : Int) = (x.i : Int)) ∧ 
 ((-1 : Int) = (-1 : Int)) ∧ 
 (True)))
 ((x.bb = x.bb) ∧ (x.bb = x.bb) ∧ ∃ x1 : (Value × Nat), (x1.2 = x.bn - (x.i - x.pos) ∧ vw x.bb x.arr x.bs x1.1 x1.2 x.i) ∧ 
 (x.m = x.m) ∧ 
 (relLe x.rel x.rel) ∧ 
 (x.bb = x.bb) ∧ 
 (x.sb = x.sb ∧ Off.lit 0 = Off.lit 0) ∧ 
 ((x.i : Int) + (0 : Int) = (x.i : Int)) ∧ 
 (Value.slice none 0 0 = Value.slice none 0 0 ∧ Value.slice none 0 0 = x1.1 ∧ x1.2 = (0 : Nat)) ∧ 
 ((512 : Nat) = (512 : Nat) ∧ x.arr = x.arr) ∧ 
 (x.sb = x.sb) ∧ 
 (x.vs = x.vs ∧ ints x.bs = ints x.bs) ∧ 
 ((x.i : Int) + (0 : Int) = (x.i : Int)) ∧ 
 ((-1 : Int) = (-1 : Int)) ∧ 
 (True))
noncomputable def law_c217 (G : Gl) (x : RB) : VCT := fnx (CH G 2) (INH G 2 no NA) noAnn Tryz.f217 (c217.args x) (c217.H x) (outK true 4 (c217.ret x)) (c217.pan x)
theorem eq_c217 (G : Gl) (x : RB) : cond_c217 G x = (law_c217 G x).den := by kernel_rfl
def cond_c212 (G : Gl) (x : RB) : Prop :=
 ∀ x1 : (Nat → Option Obj), (rbOK (RB.mk x1 x.rel x.bb x.sb (Int.toNat (x.pos : Int)) x.bv x.bn x.arr x.vs (nats (ints x.bs)) (Int.toNat (x.i : Int)) x.prev)) ∧ 
 (x.bb = x.bb ∧ Off.lit 0 = Off.lit 0) ∧ 
 (x1 = x1) ∧ 
 (relLe x.rel x.rel) ∧ 
 (x.bb = x.bb) ∧ 
 (x.sb = x.sb ∧ Off.lit 0 = Off.lit 0) ∧ 
 ((x.pos : Int) = (↑(Int.toNat (x.pos : Int)) : Int)) ∧ 
 (x.bv = x.bv ∧ x.bn = x.bn) ∧ 
 ((512 : Nat) = (512 : Nat) ∧ x.arr = x.arr) ∧ 
 (x.sb = x.sb) ∧ 
 (x.vs = x.vs ∧ ints x.bs = ints (nats (ints x.bs))) ∧ 
 ((x.i : Int) = (↑(Int.toNat (x.i : Int)) : Int)) ∧ 
 (x.prev = x.prev) ∧ 
 ∀ x2 : (Value × Nat), (x2.2 = x.bn - (Int.toNat (x.i : Int) - Int.toNat (x.pos : Int)) ∧ vw x.bb x.arr (nats (ints x.bs)) x2.1 x2.2 (Int.toNat (x.i : Int))) → 
 (x1 = x1) ∧ 
 (x.bb = x.bb) ∧ 
 (x.bb = x.bb) ∧ 
 (x.sb = x.sb) ∧ (x.sb = x.sb) ∧ Br (decide ((↑(Int.toNat (x.i : Int)) : Int) ≥ (↑(List.length (ints (nats (ints x.bs)))) : Int)))
 ((SV.toV (T := TT) (SV.p 2 x.bb (Off.lit 0)) = SV.toV (T := TT) (SV.p 2 x.bb (Off.lit 0))) ∧ (SV.toV (T := TT) (SV.p 2 x.bb (Off.lit 0)) = SV.toV (T := TT) (SV.p 2 x.bb (Off.lit 0))) ∧ (SV.toV (T := TT) (SV.p 2 x.bb (Off.add (Off.lit 0) 2)) = SV.toV (T := TT) (SV.p 2 x.bb (Off.lit 2))) ∧ 
 (x.bb = x.bb) ∧ 
 (SV.toV (T := TT) (SV.w x2.1 x2.2) = SV.toV (T := TT) (SV.w x2.1 x2.2)) ∧ (SV.toV (T := TT) (SV.v (Value.int IntKind.i64 (x2.2 : Int))) = SV.toV (T := TT) (SV.v (Value.int IntKind.i64 (x2.2 : Int)))) ∧ (x.bb = x.bb) ∧ 
 (x.sb = x.sb) ∧ (x.sb = x.sb) ∧ Br (decide ((↑(Int.toNat (x.i : Int)) : Int) ≥ (↑(List.length (ints (nats (ints x.bs)))) : Int)))
 (∃ x3 : (Value × Nat), (x3.2 = x.bn - (x.i - x.pos) ∧ vw x.bb x.arr x.bs x3.1 x3.2 x.i) ∧ 
 ((0 : Int) = (x3.2 : Int)) ∧ 
 (x.m = x.m) ∧ 
 (relLe x.rel x.rel) ∧ 
 (x.bb = x.bb) ∧ 
 (x.sb = x.sb ∧ Off.lit 0 = Off.lit 0) ∧ 
 ((↑(Int.toNat (x.i : Int)) : Int) = (x.i : Int)) ∧ 
 (x2.1 = x3.1 ∧ x2.2 = x3.2) ∧ 
 ((512 : Nat) = (512 : Nat) ∧ x.arr = x.arr) ∧ 
 (x.sb = x.sb) ∧ 
 (x.vs = x.vs ∧ ints (nats (ints x.bs)) = ints x.bs) ∧ 
 ((↑(Int.toNat (x.i : Int)) : Int) = (x.i : Int)) ∧ 
 ((-1 : Int) = (-1 : Int)) ∧ 
 (True))
 ((x.sb = x.sb) ∧ (x.sb = x.sb) ∧ (inI64 ((↑(List.length (ints (nats (ints x.bs)))) : Int) - (↑(Int.toNat (x.i : Int)) : Int))) ∧ 
 ∃ x3 : (Value × Nat), (x3.2 = x.bn - (x.i - x.pos) ∧ vw x.bb x.arr x.bs x3.1 x3.2 x.i) ∧ 
 ((↑(List.length (ints (nats (ints x.bs)))) : Int) - (↑(Int.toNat (x.i : Int)) : Int) = (x3.2 : Int)) ∧ 
 (x.m = x.m) ∧ 
 (relLe x.rel x.rel) ∧ 
 (x.bb = x.bb) ∧ 
 (x.sb = x.sb ∧ Off.lit 0 = Off.lit 0) ∧ 
 ((↑(Int.toNat (x.i : Int)) : Int) = (x.i : Int)) ∧ 
 (x2.1 = x3.1 ∧ x2.2 = x3.2) ∧ 
 ((512 : Nat) = (512 : Nat) ∧ x.arr = x.arr) ∧ 
 (x.sb = x.sb) ∧ 
 (x.vs = x.vs ∧ ints (nats (ints x.bs)) = ints x.bs) ∧ 
 ((↑(Int.toNat (x.i : Int)) : Int) = (x.i : Int)) ∧ 
 ((-1 : Int) = (-1 : Int)) ∧ 
 (True)))
 ((x.sb = x.sb) ∧ (x.sb = x.sb) ∧ (inI64 ((↑(List.length (ints (nats (ints x.bs)))) : Int) - (↑(Int.toNat (x.i : Int)) : Int))) ∧ 
 (SV.toV (T := TT) (SV.p 2 x.bb (Off.lit 0)) = SV.toV (T := TT) (SV.p 2 x.bb (Off.lit 0))) ∧ (SV.toV (T := TT) (SV.p 2 x.bb (Off.lit 0)) = SV.toV (T := TT) (SV.p 2 x.bb (Off.lit 0))) ∧ (SV.toV (T := TT) (SV.p 2 x.bb (Off.add (Off.lit 0) 2)) = SV.toV (T := TT) (SV.p 2 x.bb (Off.lit 2))) ∧ 
 (x.bb = x.bb) ∧ 
 (SV.toV (T := TT) (SV.w x2.1 x2.2) = SV.toV (T := TT) (SV.w x2.1 x2.2)) ∧ (SV.toV (T := TT) (SV.v (Value.int IntKind.i64 (x2.2 : Int))) = SV.toV (T := TT) (SV.v (Value.int IntKind.i64 (x2.2 : Int)))) ∧ Br (decide ((↑(List.length (ints (nats (ints x.bs)))) : Int) - (↑(Int.toNat (x.i : Int)) : Int) > (x2.2 : Int)))
 ((x.bb = x.bb) ∧ 
 ∃ x3 : (Value × Nat), (x3.2 = x.bn - (x.i - x.pos) ∧ vw x.bb x.arr x.bs x3.1 x3.2 x.i) ∧ 
 ((x2.2 : Int) = (x3.2 : Int)) ∧ 
 (x.m = x.m) ∧ 
 (relLe x.rel x.rel) ∧ 
 (x.bb = x.bb) ∧ 
 (x.sb = x.sb ∧ Off.lit 0 = Off.lit 0) ∧ 
 ((↑(Int.toNat (x.i : Int)) : Int) = (x.i : Int)) ∧ 
 (x2.1 = x3.1 ∧ x2.2 = x3.2) ∧ 
 ((512 : Nat) = (512 : Nat) ∧ x.arr = x.arr) ∧ 
 (x.sb = x.sb) ∧ 
 (x.vs = x.vs ∧ ints (nats (ints x.bs)) = ints x.bs) ∧ 
 ((↑(Int.toNat (x.i : Int)) : Int) = (x.i : Int)) ∧ 
 ((-1 : Int) = (-1 : Int)) ∧ 
 (True))
 ((x.bb = x.bb) ∧ 
 (x.sb = x.sb) ∧ (x.sb = x.sb) ∧ Br (decide ((↑(Int.toNat (x.i : Int)) : Int) ≥ (↑(List.length (ints (nats (ints x.bs)))) : Int)))
 (∃ x3 : (Value × Nat), (x3.2 = x.bn - (x.i - x.pos) ∧ vw x.bb x.arr x.bs x3.1 x3.2 x.i) ∧ 
 ((0 : Int) = (x3.2 : Int)) ∧ 
 (x.m = x.m) ∧ 
 (relLe x.rel x.rel) ∧ 
 (x.bb = x.bb) ∧ 
 (x.sb = x.sb ∧ Off.lit 0 = Off.lit 0) ∧ 
 ((↑(Int.toNat (x.i : Int)) : Int) = (x.i : Int)) ∧ 
 (x2.1 = x3.1 ∧ x2.2 = x3.2) ∧ 
 ((512 : Nat) = (512 : Nat) ∧ x.arr = x.arr) ∧ 
 (x.sb = x.sb) ∧ 
 (x.vs = x.vs ∧ ints (nats (ints x.bs)) = ints x.bs) ∧ 
 ((↑(Int.toNat (x.i : Int)) : Int) = (x.i : Int)) ∧ 
 ((-1 : Int) = (-1 : Int)) ∧ 
 (True))
 ((x.sb = x.sb) ∧ (x.sb = x.sb) ∧ (inI64 ((↑(List.length (ints (nats (ints x.bs)))) : Int) - (↑(Int.toNat (x.i : Int)) : Int))) ∧ 
 ∃ x3 : (Value × Nat), (x3.2 = x.bn - (x.i - x.pos) ∧ vw x.bb x.arr x.bs x3.1 x3.2 x.i) ∧ 
 ((↑(List.length (ints (nats (ints x.bs)))) : Int) - (↑(Int.toNat (x.i : Int)) : Int) = (x3.2 : Int)) ∧ 
 (x.m = x.m) ∧ 
 (relLe x.rel x.rel) ∧ 
 (x.bb = x.bb) ∧ 
 (x.sb = x.sb ∧ Off.lit 0 = Off.lit 0) ∧ 
 ((↑(Int.toNat (x.i : Int)) : Int) = (x.i : Int)) ∧ 
 (x2.1 = x3.1 ∧ x2.2 = x3.2) ∧ 
 ((512 : Nat) = (512 : Nat) ∧ x.arr = x.arr) ∧ 
 (x.sb = x.sb) ∧ 
 (x.vs = x.vs ∧ ints (nats (ints x.bs)) = ints x.bs) ∧ 
 ((↑(Int.toNat (x.i : Int)) : Int) = (x.i : Int)) ∧ 
 ((-1 : Int) = (-1 : Int)) ∧ 
 (True))))
noncomputable def law_c212 (G : Gl) (x : RB) : VCT := fnx (CH G 2) (INH G 2 b217 NA) noAnn Tryz.f212 (c212.args x) (c212.H x) (outK true 4 (c212.ret x)) (c212.pan x)
theorem eq_c212 (G : Gl) (x : RB) : cond_c212 G x = (law_c212 G x).den := by kernel_rfl
def cond_c213 (G : Gl) (x : RB) (n : Nat) : Prop :=
 (x.bb = x.bb) ∧ (x.sb = x.sb) ∧ (x.sb = x.sb) ∧ Br (decide ((x.i : Int) ≥ (↑(List.length (ints x.bs)) : Int)))
 (Br (decide ((↑n : Int) > (0 : Int)))
 ((x.bb = x.bb) ∧ (x.sb = x.sb) ∧ (x.sb = x.sb) ∧ Br (decide ((x.i : Int) ≥ (↑(List.length (ints x.bs)) : Int)))
 ((SV.toV (T := TT) (SV.v (errV (Gl.E G))) = SV.toV (T := TT) (SV.v (errV (Gl.E G)))) ∧ (x.bb = x.bb) ∧ (x.sb = x.sb) ∧ (x.sb = x.sb) ∧ (inI64 ((x.i : Int) + (0 : Int))) ∧ 
 (x.sb = x.sb) ∧ ∃ x1 : (Unit), (True) ∧ 
 ((0 : Int) = (↑n : Int)) ∧ 
 (errV (Gl.E G) = Value.nilIface) ∧ 
 (x.m = x.m) ∧ 
 (relLe x.rel x.rel) ∧ 
 (x.bb = x.bb) ∧ 
 (x.sb = x.sb ∧ Off.lit 0 = Off.lit 0) ∧ 
 ((x.pos : Int) = (x.pos : Int)) ∧ 
 (x.bv = x.bv ∧ x.bn = x.bn) ∧ 
 ((512 : Nat) = (512 : Nat) ∧ x.arr = x.arr) ∧ 
 (x.sb = x.sb) ∧ 
 (x.vs = x.vs ∧ ints x.bs = ints x.bs) ∧ 
 ((x.i : Int) + (0 : Int) = (↑(x.i + n) : Int)) ∧ 
 ((-1 : Int) = (-1 : Int)) ∧ 
 (True))
 ((x.sb = x.sb) ∧ (x.sb = x.sb) ∧ (inI64 ((↑(List.length (ints x.bs)) : Int) - (x.i : Int))) ∧ 
 (SV.toV (T := TT) (SV.v (errV (Gl.E G))) = SV.toV (T := TT) (SV.v (errV (Gl.E G)))) ∧ (x.bb = x.bb) ∧ (x.sb = x.sb) ∧ (x.sb = x.sb) ∧ (inI64 ((x.i : Int) + ((↑(List.length (ints x.bs)) : Int) - (x.i : Int)))) ∧ 
 Br (decide ((x.i : Int) + ((↑(List.length (ints x.bs)) : Int) - (x.i : Int)) < (0 : Int)))
 (False /- "build" -/)
 ((x.sb = x.sb) ∧ ∃ x1 : (Unit), (True) ∧ 
 ((↑(List.length (ints x.bs)) : Int) - (x.i : Int) = (↑n : Int)) ∧ 
 (errV (Gl.E G) = Value.nilIface) ∧ 
 (x.m = x.m) ∧ 
 (relLe x.rel x.rel) ∧ 
 (x.bb = x.bb) ∧ 
 (x.sb = x.sb ∧ Off.lit 0 = Off.lit 0) ∧ 
 ((x.pos : Int) = (x.pos : Int)) ∧ 
 (x.bv = x.bv ∧ x.bn = x.bn) ∧ 
 ((512 : Nat) = (512 : Nat) ∧ x.arr = x.arr) ∧ 
 (x.sb = x.sb) ∧ 
 (x.vs = x.vs ∧ ints x.bs = ints x.bs) ∧ 
 ((x.i : Int) + ((↑(List.length (ints x.bs)) : Int) - (x.i : Int)) = (↑(x.i + n) : Int)) ∧ 
 ((-1 : Int) = (-1 : Int)) ∧ 
 (True))))
 ((x.bb = x.bb) ∧ (x.sb = x.sb) ∧ (x.sb = x.sb) ∧ (inI64 ((x.i : Int) + (↑n : Int))) ∧ 
 (x.sb = x.sb) ∧ ∃ x1 : (Unit), (True) ∧ 
 ((↑n : Int) = (↑n : Int)) ∧ (Value.nilIface = Value.nilIface) ∧ (x.m = x.m) ∧ 
 (relLe x.rel x.rel) ∧ 
 (x.bb = x.bb) ∧ 
 (x.sb = x.sb ∧ Off.lit 0 = Off.lit 0) ∧ 
 ((x.pos : Int) = (x.pos : Int)) ∧ 
 (x.bv = x.bv ∧ x.bn = x.bn) ∧ 
 ((512 : Nat) = (512 : Nat) ∧ x.arr = x.arr) ∧ 
 (x.sb = x.sb) ∧ 
 (x.vs = x.vs ∧ ints x.bs = ints x.bs) ∧ 
 ((x.i : Int) + (↑n : Int) = (↑(x.i + n) : Int)) ∧ 
 ((-1 : Int) = (-1 : Int)) ∧ 
 (True)))
 ((x.sb = x.sb) ∧ (x.sb = x.sb) ∧ (inI64 ((↑(List.length (ints x.bs)) : Int) - (x.i : Int))) ∧ 
 Br (decide ((↑n : Int) > (↑(List.length (ints x.bs)) : Int) - (x.i : Int)))
 ((x.bb = x.bb) ∧ (x.sb = x.sb) ∧ (x.sb = x.sb) ∧ Br (decide ((x.i : Int) ≥ (↑(List.length (ints x.bs)) : Int)))
 ((SV.toV (T := TT) (SV.v (errV (Gl.E G))) = SV.toV (T := TT) (SV.v (errV (Gl.E G)))) ∧ (x.bb = x.bb) ∧ (x.sb = x.sb) ∧ (x.sb = x.sb) ∧ (inI64 ((x.i : Int) + (0 : Int))) ∧ 
 (x.sb = x.sb) ∧ ∃ x1 : (Unit), (True) ∧ 
 ((0 : Int) = (↑n : Int)) ∧ 
 (errV (Gl.E G) = Value.nilIface) ∧ 
 (x.m = x.m) ∧ 
 (relLe x.rel x.rel) ∧ 
 (x.bb = x.bb) ∧ 
 (x.sb = x.sb ∧ Off.lit 0 = Off.lit 0) ∧ 
 ((x.pos : Int) = (x.pos : Int)) ∧ 
 (x.bv = x.bv ∧ x.bn = x.bn) ∧ 
 ((512 : Nat) = (512 : Nat) ∧ x.arr = x.arr) ∧ 
 (x.sb = x.sb) ∧ 
 (x.vs = x.vs ∧ ints x.bs = ints x.bs) ∧ 
 ((x.i : Int) + (0 : Int) = (↑(x.i + n) : Int)) ∧ 
 ((-1 : Int) = (-1 : Int)) ∧ 
 (True))
 ((x.sb = x.sb) ∧ (x.sb = x.sb) ∧ (inI64 ((↑(List.length (ints x.bs)) : Int) - (x.i : Int))) ∧ 
 (SV.toV (T := TT) (SV.v (errV (Gl.E G))) = SV.toV (T := TT) (SV.v (errV (Gl.E G)))) ∧ (x.bb = x.bb) ∧ (x.sb = x.sb) ∧ (x.sb = x.sb) ∧ (inI64 ((x.i : Int) + ((↑(List.length (ints x.bs)) : Int) - (x.i : Int)))) ∧ 
 Br (decide ((x.i : Int) + ((↑(List.length (ints x.bs)) : Int) - (x.i : Int)) < (0 : Int)))
 (False /- "build" -/)
 ((x.sb = x.sb) ∧ ∃ x1 : (Unit), (True) ∧ 
 ((↑(List.length (ints x.bs)) : Int) - (x.i : Int) = (↑n : Int)) ∧ 
 (errV (Gl.E G) = Value.nilIface) ∧ 
 (x.m = x.m) ∧ 
 (relLe x.rel x.rel) ∧ 
 (x.bb = x.bb) ∧ 
 (x.sb = x.sb ∧ Off.lit 0 = Off.lit 0) ∧ 
 ((x.pos : Int) = (x.pos : Int)) ∧ 
 (x.bv = x.bv ∧ x.bn = x.bn) ∧ 
 ((512 : Nat) = (512 : Nat) ∧ x.arr = x.arr) ∧ 
 (x.sb = x.sb) ∧ 
 (x.vs = x.vs ∧ ints x.bs = ints x.bs) ∧ 
 ((x.i : Int) + ((↑(List.length (ints x.bs)) : Int) - (x.i : Int)) = (↑(x.i + n) : Int)) ∧ 
 ((-1 : Int) = (-1 : Int)) ∧ 
 (True))))
 ((x.bb = x.bb) ∧ (x.sb = x.sb) ∧ (x.sb = x.sb) ∧ (inI64 ((x.i : Int) + (↑n : Int))) ∧ 
 (x.sb = x.sb) ∧ ∃ x1 : (Unit), (True) ∧ 
 ((↑n : Int) = (↑n : Int)) ∧ (Value.nilIface = Value.nilIface) ∧ (x.m = x.m) ∧ 
 (relLe x.rel x.rel) ∧ 
 (x.bb = x.bb) ∧ 
 (x.sb = x.sb ∧ Off.lit 0 = Off.lit 0) ∧ 
 ((x.pos : Int) = (x.pos : Int)) ∧ 
 (x.bv = x.bv ∧ x.bn = x.bn) ∧ 
 ((512 : Nat) = (512 : Nat) ∧ x.arr = x.arr) ∧ 
 (x.sb = x.sb) ∧ 
 (x.vs = x.vs ∧ ints x.bs = ints x.bs) ∧ 
 ((x.i : Int) + (↑n : Int) = (↑(x.i + n) : Int)) ∧ 
 ((-1 : Int) = (-1 : Int)) ∧ 
 (True)))
noncomputable def law_c213 (G : Gl) (x : RB) (n : Nat) : VCT := fnx (CH G 2) (INH G 2 no NA) noAnn Tryz.f213 (c213.args (x, n)) (c213.H (x, n)) (outK true 4 (c213.ret (x, n))) (c213.pan (x, n))
theorem eq_c213 (G : Gl) (x : RB) (n : Nat) : cond_c213 G x n = (law_c213 G x n).den := by kernel_rfl
def cond_c214 (G : Gl) (x : RB) (n : Nat) : Prop :=
 Br (decide ((↑n : Int) > (512 : Int)))
 (((∃ x1 : (Y214), (n ≤ List.length x.bs - x.i ∧ pk214 x n n x1) ∧ 
 (Value.slice none 0 0 = Value.slice none 0 0 ∧ Value.slice none 0 0 = Y214.pv x1 ∧ n = (0 : Nat)) ∧ 
 (errV (Gl.S G) = Value.nilIface) ∧ 
 (x.m = x.m) ∧ 
 (relLe x.rel x.rel) ∧ 
 (x.bb = x.bb) ∧ 
 (x.sb = x.sb ∧ Off.lit 0 = Off.lit 0) ∧ 
 ((x.pos : Int) = (x.i : Int)) ∧ 
 (x.bv = Y214.bv x1 ∧ x.bn = Y214.bn x1) ∧ 
 ((512 : Nat) = (512 : Nat) ∧ x.arr = Y214.arr x1) ∧ 
 (x.sb = x.sb) ∧ 
 (x.vs = x.vs ∧ ints x.bs = ints x.bs) ∧ 
 ((x.i : Int) = (x.i : Int)) ∧ 
 (x.prev = (-1 : Int)) ∧ 
 (True)) ∨
 (∃ x1 : (Y214), (List.length x.bs - x.i < n ∧ pk214 x n (List.length x.bs - x.i) x1) ∧ 
 (Value.slice none 0 0 = Value.slice none 0 0 ∧ Value.slice none 0 0 = Y214.pv x1 ∧ List.length x.bs - x.i = (0 : Nat)) ∧ 
 (errV (Gl.S G) = errV (Gl.E G)) ∧ 
 (x.m = x.m) ∧ 
 (relLe x.rel x.rel) ∧ 
 (x.bb = x.bb) ∧ 
 (x.sb = x.sb ∧ Off.lit 0 = Off.lit 0) ∧ 
 ((x.pos : Int) = (x.i : Int)) ∧ 
 (x.bv = Y214.bv x1 ∧ x.bn = Y214.bn x1) ∧ 
 ((512 : Nat) = (512 : Nat) ∧ x.arr = Y214.arr x1) ∧ 
 (x.sb = x.sb) ∧ 
 (x.vs = x.vs ∧ ints x.bs = ints x.bs) ∧ 
 ((x.i : Int) = (x.i : Int)) ∧ 
 (x.prev = (-1 : Int)) ∧ 
 (True))))
 (∀ x1 : (Nat → Option Obj), (rbOK (RB.mk x1 x.rel x.bb x.sb (Int.toNat (x.pos : Int)) x.bv x.bn x.arr x.vs (nats (ints x.bs)) (Int.toNat (x.i : Int)) x.prev)) ∧ 
 (x.bb = x.bb ∧ Off.lit 0 = Off.lit 0) ∧ 
 (x1 = x1) ∧ 
 (relLe x.rel x.rel) ∧ 
 (x.bb = x.bb) ∧ 
 (x.sb = x.sb ∧ Off.lit 0 = Off.lit 0) ∧ 
 ((x.pos : Int) = (↑(Int.toNat (x.pos : Int)) : Int)) ∧ 
 (x.bv = x.bv ∧ x.bn = x.bn) ∧ 
 ((512 : Nat) = (512 : Nat) ∧ x.arr = x.arr) ∧ 
 (x.sb = x.sb) ∧ 
 (x.vs = x.vs ∧ ints x.bs = ints (nats (ints x.bs))) ∧ 
 ((x.i : Int) = (↑(Int.toNat (x.i : Int)) : Int)) ∧ 
 (x.prev = x.prev) ∧ 
 ∀ x2 : (Value × Nat), (x2.2 = x.bn - (Int.toNat (x.i : Int) - Int.toNat (x.pos : Int)) ∧ vw x.bb x.arr (nats (ints x.bs)) x2.1 x2.2 (Int.toNat (x.i : Int))) → 
 (x1 = x1) ∧ 
 (x.bb = x.bb) ∧ 
 Br (decide ((x2.2 : Int) ≥ (↑n : Int)))
 ((x.bb = x.bb) ∧ 
 ((0 : Int) ≤ (0 : Int) ∧ (0 : Int) ≤ (↑n : Int) ∧ (↑n : Int) ≤ (↑(capVal x2.1) : Int)) ∧ 
 ((∃ x3 : (Y214), (n ≤ List.length x.bs - x.i ∧ pk214 x n n x3) ∧ 
 (sliceVal x2.1 0 (Int.toNat (↑n : Int)) 1 = Y214.pv x3 ∧ Int.toNat (↑n : Int) - (0 : Nat) = n) ∧ 
 (Value.nilIface = Value.nilIface) ∧ (x.m = x.m) ∧ 
 (relLe x.rel x.rel) ∧ 
 (x.bb = x.bb) ∧ 
 (x.sb = x.sb ∧ Off.lit 0 = Off.lit 0) ∧ 
 ((↑(Int.toNat (x.i : Int)) : Int) = (x.i : Int)) ∧ 
 (x2.1 = Y214.bv x3 ∧ x2.2 = Y214.bn x3) ∧ 
 ((512 : Nat) = (512 : Nat) ∧ x.arr = Y214.arr x3) ∧ 
 (x.sb = x.sb) ∧ 
 (x.vs = x.vs ∧ ints (nats (ints x.bs)) = ints x.bs) ∧ 
 ((↑(Int.toNat (x.i : Int)) : Int) = (x.i : Int)) ∧ 
 ((-1 : Int) = (-1 : Int)) ∧ 
 (True)) ∨
 (∃ x3 : (Y214), (List.length x.bs - x.i < n ∧ pk214 x n (List.length x.bs - x.i) x3) ∧ 
 (sliceVal x2.1 0 (Int.toNat (↑n : Int)) 1 = Y214.pv x3 ∧ Int.toNat (↑n : Int) - (0 : Nat) = List.length x.bs - x.i) ∧ 
 (Value.nilIface = errV (Gl.E G)) ∧ 
 (x.m = x.m) ∧ 
 (relLe x.rel x.rel) ∧ 
 (x.bb = x.bb) ∧ 
 (x.sb = x.sb ∧ Off.lit 0 = Off.lit 0) ∧ 
 ((↑(Int.toNat (x.i : Int)) : Int) = (x.i : Int)) ∧ 
 (x2.1 = Y214.bv x3 ∧ x2.2 = Y214.bn x3) ∧ 
 ((512 : Nat) = (512 : Nat) ∧ x.arr = Y214.arr x3) ∧ 
 (x.sb = x.sb) ∧ 
 (x.vs = x.vs ∧ ints (nats (ints x.bs)) = ints x.bs) ∧ 
 ((↑(Int.toNat (x.i : Int)) : Int) = (x.i : Int)) ∧ 
 ((-1 : Int) = (-1 : Int)) ∧ 
 (True))))
 ((x.bb = x.bb) ∧ 
 ((0 : Int) ≤ (0 : Int) ∧ (0 : Int) ≤ (512 : Int) ∧ (512 : Int) ≤ (512 : Int) ∧ ((0 : Int) < (512 : Int) ∨ (0 : Int) = (0 : Int))) ∧ 
 (x.bb = x.bb) ∧ 
 (x.sb = x.sb) ∧ Br (decide ((↑(Int.toNat (x.i : Int)) : Int) ≥ (↑(List.length (ints (nats (ints x.bs)))) : Int)))
 (((0 : Int) ≤ (0 : Int) ∧ (0 : Int) ≤ (0 : Int) ∧ (0 : Int) ≤ (512 : Int) ∧ ((0 : Int) < (512 : Int) ∨ (0 : Int) = (0 : Int))) ∧ 
 (x.bb = x.bb) ∧ 
 Br (decide ((0 : Int) < (↑n : Int)))
 (((0 : Int) ≤ (0 : Int) ∧ (0 : Int) ≤ (0 : Int) ∧ (0 : Int) ≤ (512 : Int) ∧ ((0 : Int) < (512 : Int) ∨ (0 : Int) = (0 : Int))) ∧ 
 ((∃ x3 : (Y214), (n ≤ List.length x.bs - x.i ∧ pk214 x n n x3) ∧ 
 (Value.slice (some (Addr.mk x.bb 3 none)) 0 512 = Y214.pv x3 ∧ (0 : Nat) = n) ∧ 
 (errV (Gl.E G) = Value.nilIface) ∧ 
 (x.m = x.m) ∧ 
 (relLe x.rel x.rel) ∧ 
 (x.bb = x.bb) ∧ 
 (x.sb = x.sb ∧ Off.lit 0 = Off.lit 0) ∧ 
 ((↑(Int.toNat (x.i : Int)) : Int) = (x.i : Int)) ∧ 
 (Value.slice (some (Addr.mk x.bb 3 none)) 0 512 = Y214.bv x3 ∧ (0 : Nat) = Y214.bn x3) ∧ 
 ((512 : Nat) = (512 : Nat) ∧ x.arr = Y214.arr x3) ∧ 
 (x.sb = x.sb) ∧ 
 (x.vs = x.vs ∧ ints (nats (ints x.bs)) = ints x.bs) ∧ 
 ((↑(Int.toNat (x.i : Int)) : Int) = (x.i : Int)) ∧ 
 ((-1 : Int) = (-1 : Int)) ∧ 
 (True)) ∨
 (∃ x3 : (Y214), (List.length x.bs - x.i < n ∧ pk214 x n (List.length x.bs - x.i) x3) ∧ 
 (Value.slice (some (Addr.mk x.bb 3 none)) 0 512 = Y214.pv x3 ∧ (0 : Nat) = List.length x.bs - x.i) ∧ 
 (errV (Gl.E G) = errV (Gl.E G)) ∧ (x.m = x.m) ∧ 
 (relLe x.rel x.rel) ∧ 
 (x.bb = x.bb) ∧ 
 (x.sb = x.sb ∧ Off.lit 0 = Off.lit 0) ∧ 
 ((↑(Int.toNat (x.i : Int)) : Int) = (x.i : Int)) ∧ 
 (Value.slice (some (Addr.mk x.bb 3 none)) 0 512 = Y214.bv x3 ∧ (0 : Nat) = Y214.bn x3) ∧ 
 ((512 : Nat) = (512 : Nat) ∧ x.arr = Y214.arr x3) ∧ 
 (x.sb = x.sb) ∧ 
 (x.vs = x.vs ∧ ints (nats (ints x.bs)) = ints x.bs) ∧ 
 ((↑(Int.toNat (x.i : Int)) : Int) = (x.i : Int)) ∧ 
 ((-1 : Int) = (-1 : Int)) ∧ 
 (True))))
 (((0 : Int) ≤ (0 : Int) ∧ (0 : Int) ≤ (↑n : Int) ∧ (↑n : Int) ≤ (512 : Int) ∧ ((0 : Int) < (512 : Int) ∨ (0 : Int) = (0 : Int))) ∧ 
 ((∃ x3 : (Y214), (n ≤ List.length x.bs - x.i ∧ pk214 x n n x3) ∧ 
 (Value.slice (some (Addr.mk x.bb 3 none)) (Int.toNat (↑n : Int) - (0 : Nat)) 512 = Y214.pv x3 ∧ Int.toNat (↑n : Int) - (0 : Nat) = n) ∧ 
 (Value.nilIface = Value.nilIface) ∧ (x.m = x.m) ∧ 
 (relLe x.rel x.rel) ∧ 
 (x.bb = x.bb) ∧ 
 (x.sb = x.sb ∧ Off.lit 0 = Off.lit 0) ∧ 
 ((↑(Int.toNat (x.i : Int)) : Int) = (x.i : Int)) ∧ 
 (Value.slice (some (Addr.mk x.bb 3 none)) 0 512 = Y214.bv x3 ∧ (0 : Nat) = Y214.bn x3) ∧ 
 ((512 : Nat) = (512 : Nat) ∧ x.arr = Y214.arr x3) ∧ 
 (x.sb = x.sb) ∧ 
 (x.vs = x.vs ∧ ints (nats (ints x.bs)) = ints x.bs) ∧ 
 ((↑(Int.toNat (x.i : Int)) : Int) = (x.i : Int)) ∧ 
 ((-1 : Int) = (-1 : Int)) ∧ 
 (True)) ∨
 (∃ x3 : (Y214), (List.length x.bs - x.i < n ∧ pk214 x n (List.length x.bs - x.i) x3) ∧ 
 (Value.slice (some (Addr.mk x.bb 3 none)) (Int.toNat (↑n : Int) - (0 : Nat)) 512 = Y214.pv x3 ∧ Int.toNat (↑n : Int) - (0 : Nat) = List.length x.bs - x.i) ∧ 
 (Value.nilIface = errV (Gl.E G)) ∧ 
 (x.m = x.m) ∧ 
 (relLe x.rel x.rel) ∧ 
 (x.bb = x.bb) ∧ 
 (x.sb = x.sb ∧ Off.lit 0 = Off.lit 0) ∧ 
 ((↑(Int.toNat (x.i : Int)) : Int) = (x.i : Int)) ∧ 
 (Value.slice (some (Addr.mk x.bb 3 none)) 0 512 = Y214.bv x3 ∧ (0 : Nat) = Y214.bn x3) ∧ 
 ((512 : Nat) = (512 : Nat) ∧ x.arr = Y214.arr x3) ∧ 
 (x.sb = x.sb) ∧ 
 (x.vs = x.vs ∧ ints (nats (ints x.bs)) = ints x.bs) ∧ 
 ((↑(Int.toNat (x.i : Int)) : Int) = (x.i : Int)) ∧ 
 ((-1 : Int) = (-1 : Int)) ∧ 
 (True)))))
 ((x.sb = x.sb) ∧ ((0 : Int) ≤ (↑(Int.toNat (x.i : Int)) : Int) ∧ (↑(Int.toNat (x.i : Int)) : Int) ≤ (↑(List.length (ints (nats (ints x.bs)))) : Int) ∧ (↑(List.length (ints (nats (ints x.bs)))) : Int) ≤ (↑(List.length (ints (nats (ints x.bs)))) : Int)) ∧ 
 (x.bb = x.bb ∧ (512 : Nat) ≤ List.length x.arr) ∧ 
 Br (decide ((↑(min (List.length (List.drop (Int.toNat (↑(Int.toNat (x.i : Int)) : Int)) (List.take (Int.toNat (↑(List.length (ints (nats (ints x.bs)))) : Int)) (ints (nats (ints x.bs)))))) 512) : Int) < (512 : Int)))
 (((0 : Int) ≤ (0 : Int) ∧ (0 : Int) ≤ (↑(min (List.length (List.drop (Int.toNat (↑(Int.toNat (x.i : Int)) : Int)) (List.take (Int.toNat (↑(List.length (ints (nats (ints x.bs)))) : Int)) (ints (nats (ints x.bs)))))) 512) : Int) ∧ (↑(min (List.length (List.drop (Int.toNat (↑(Int.toNat (x.i : Int)) : Int)) (List.take (Int.toNat (↑(List.length (ints (nats (ints x.bs)))) : Int)) (ints (nats (ints x.bs)))))) 512) : Int) ≤ (512 : Int) ∧ ((0 : Int) < (512 : Int) ∨ (0 : Int) = (0 : Int))) ∧ 
 (x.bb = x.bb) ∧ 
 Br (decide ((↑(min (List.length (List.drop (Int.toNat (↑(Int.toNat (x.i : Int)) : Int)) (List.take (Int.toNat (↑(List.length (ints (nats (ints x.bs)))) : Int)) (ints (nats (ints x.bs)))))) 512) : Int) < (↑n : Int)))
 (((0 : Int) ≤ (0 : Int) ∧ (0 : Int) ≤ (↑(min (List.length (List.drop (Int.toNat (↑(Int.toNat (x.i : Int)) : Int)) (List.take (Int.toNat (↑(List.length (ints (nats (ints x.bs)))) : Int)) (ints (nats (ints x.bs)))))) 512) : Int) ∧ (↑(min (List.length (List.drop (Int.toNat (↑(Int.toNat (x.i : Int)) : Int)) (List.take (Int.toNat (↑(List.length (ints (nats (ints x.bs)))) : Int)) (ints (nats (ints x.bs)))))) 512) : Int) ≤ (512 : Int) ∧ ((0 : Int) < (512 : Int) ∨ (0 : Int) = (0 : Int))) ∧ 
 ((∃ x3 : (Y214), (n ≤ List.length x.bs - x.i ∧ pk214 x n n x3) ∧ 
 (Value.slice (some (Addr.mk x.bb 3 none)) (Int.toNat (↑(min (List.length (List.drop (Int.toNat (↑(Int.toNat (x.i : Int)) : Int)) (List.take (Int.toNat (↑(List.length (ints (nats (ints x.bs)))) : Int)) (ints (nats (ints x.bs)))))) 512) : Int) - (0 : Nat)) 512 = Y214.pv x3 ∧ Int.toNat (↑(min (List.length (List.drop (Int.toNat (↑(Int.toNat (x.i : Int)) : Int)) (List.take (Int.toNat (↑(List.length (ints (nats (ints x.bs)))) : Int)) (ints (nats (ints x.bs)))))) 512) : Int) - (0 : Nat) = n) ∧ 
 (errV (Gl.E G) = Value.nilIface) ∧ 
 (x.m = x.m) ∧ 
 (relLe x.rel x.rel) ∧ 
 (x.bb = x.bb) ∧ 
 (x.sb = x.sb ∧ Off.lit 0 = Off.lit 0) ∧ 
 ((↑(Int.toNat (x.i : Int)) : Int) = (x.i : Int)) ∧ 
 (Value.slice (some (Addr.mk x.bb 3 none)) (Int.toNat (↑(min (List.length (List.drop (Int.toNat (↑(Int.toNat (x.i : Int)) : Int)) (List.take (Int.toNat (↑(List.length (ints (nats (ints x.bs)))) : Int)) (ints (nats (ints x.bs)))))) 512) : Int) - (0 : Nat)) 512 = Y214.bv x3 ∧ Int.toNat (↑(min (List.length (List.drop (Int.toNat (↑(Int.toNat (x.i : Int)) : Int)) (List.take (Int.toNat (↑(List.length (ints (nats (ints x.bs)))) : Int)) (ints (nats (ints x.bs)))))) 512) : Int) - (0 : Nat) = Y214.bn x3) ∧ 
 ((512 : Nat) = (512 : Nat) ∧ List.take 0 x.arr ++ List.take (min (List.length (List.drop (Int.toNat (↑(Int.toNat (x.i : Int)) : Int)) (List.take (Int.toNat (↑(List.length (ints (nats (ints x.bs)))) : Int)) (ints (nats (ints x.bs)))))) 512) (List.drop (Int.toNat (↑(Int.toNat (x.i : Int)) : Int)) (List.take (Int.toNat (↑(List.length (ints (nats (ints x.bs)))) : Int)) (ints (nats (ints x.bs))))) ++ List.drop ((0 : Nat) + min (List.length (List.drop (Int.toNat (↑(Int.toNat (x.i : Int)) : Int)) (List.take (Int.toNat (↑(List.length (ints (nats (ints x.bs)))) : Int)) (ints (nats (ints x.bs)))))) 512) x.arr = Y214.arr x3) ∧ 
 (x.sb = x.sb) ∧ 
 (x.vs = x.vs ∧ ints (nats (ints x.bs)) = ints x.bs) ∧ 
 ((↑(Int.toNat (x.i : Int)) : Int) = (x.i : Int)) ∧ 
 ((-1 : Int) = (-1 : Int)) ∧ 
 (True)) ∨
 (∃ x3 : (Y214), (List.length x.bs - x.i < n ∧ pk214 x n (List.length x.bs - x.i) x3) ∧ 
 (Value.slice (some (Addr.mk x.bb 3 none)) (Int.toNat (↑(min (List.length (List.drop (Int.toNat (↑(Int.toNat (x.i : Int)) : Int)) (List.take (Int.toNat (↑(List.length (ints (nats (ints x.bs)))) : Int)) (ints (nats (ints x.bs)))))) 512) : Int) - (0 : Nat)) 512 = Y214.pv x3 ∧ Int.toNat (↑(min (List.length (List.drop (Int.toNat (↑(Int.toNat (x.i : Int)) : Int)) (List.take (Int.toNat (↑(List.length (ints (nats (ints x.bs)))) : Int)) (ints (nats (ints x.bs)))))) 512) : Int) - (0 : Nat) = List.length x.bs - x.i) ∧ 
 (errV (Gl.E G) = errV (Gl.E G)) ∧ (x.m = x.m) ∧ 
 (relLe x.rel x.rel) ∧ 
 (x.bb = x.bb) ∧ 
 (x.sb = x.sb ∧ Off.lit 0 = Off.lit 0) ∧ 
 ((↑(Int.toNat (x.i : Int)) : Int) = (x.i : Int)) ∧ 
 (Value.slice (some (Addr.mk x.bb 3 none)) (Int.toNat (↑(min (List.length (List.drop (Int.toNat (↑(Int.toNat (x.i : Int)) : Int)) (List.take (Int.toNat (↑(List.length (ints (nats (ints x.bs)))) : Int)) (ints (nats (ints x.bs)))))) 512) : Int) - (0 : Nat)) 512 = Y214.bv x3 ∧ Int.toNat (↑(min (List.length (List.drop (Int.toNat (↑(Int.toNat (x.i : Int)) : Int)) (List.take (Int.toNat (↑(List.length (ints (nats (ints x.bs)))) : Int)) (ints (nats (ints x.bs)))))) 512) : Int) - (0 : Nat) = Y214.bn x3) ∧ 
 ((512 : Nat) = (512 : Nat) ∧ List.take 0 x.arr ++ List.take (min (List.length (List.drop (Int.toNat (↑(Int.toNat (x.i : Int)) : Int)) (List.take (Int.toNat (↑(List.length (ints (nats (ints x.bs)))) : Int)) (ints (nats (ints x.bs)))))) 512) (List.drop (Int.toNat (↑(Int.toNat (x.i : Int)) : Int)) (List.take (Int.toNat (↑(List.length (ints (nats (ints x.bs)))) : Int)) (ints (nats (ints x.bs))))) ++ List.drop ((0 : Nat) + min (List.length (List.drop (Int.toNat (↑(Int.toNat (x.i : Int)) : Int)) (List.take (Int.toNat (↑(List.length (ints (nats (ints x.bs)))) : Int)) (ints (nats (ints x.bs)))))) 512) x.arr = Y214.arr x3) ∧ 
 (x.sb = x.sb) ∧ 
 (x.vs = x.vs ∧ ints (nats (ints x.bs)) = ints x.bs) ∧ 
 ((↑(Int.toNat (x.i : Int)) : Int) = (x.i : Int)) ∧ 
 ((-1 : Int) = (-1 : Int)) ∧ 
 (True))))
 (((0 : Int) ≤ (0 : Int) ∧ (0 : Int) ≤ (↑n : Int) ∧ (↑n : Int) ≤ (512 : Int) ∧ ((0 : Int) < (512 : Int) ∨ (0 : Int) = (0 : Int))) ∧ 
 ((∃ x3 : (Y214), (n ≤ List.length x.bs - x.i ∧ pk214 x n n x3) ∧ 
 (Value.slice (some (Addr.mk x.bb 3 none)) (Int.toNat (↑n : Int) - (0 : Nat)) 512 = Y214.pv x3 ∧ Int.toNat (↑n : Int) - (0 : Nat) = n) ∧ 
 (Value.nilIface = Value.nilIface) ∧ (x.m = x.m) ∧ 
 (relLe x.rel x.rel) ∧ 
 (x.bb = x.bb) ∧ 
 (x.sb = x.sb ∧ Off.lit 0 = Off.lit 0) ∧ 
 ((↑(Int.toNat (x.i : Int)) : Int) = (x.i : Int)) ∧ 
 (Value.slice (some (Addr.mk x.bb 3 none)) (Int.toNat (↑(min (List.length (List.drop (Int.toNat (↑(Int.toNat (x.i : Int)) : Int)) (List.take (Int.toNat (↑(List.length (ints (nats (ints x.bs)))) : Int)) (ints (nats (ints x.bs)))))) 512) : Int) - (0 : Nat)) 512 = Y214.bv x3 ∧ Int.toNat (↑(min (List.length (List.drop (Int.toNat (↑(Int.toNat (x.i : Int)) : Int)) (List.take (Int.toNat (↑(List.length (ints (nats (ints x.bs)))) : Int)) (ints (nats (ints x.bs)))))) 512) : Int) - (0 : Nat) = Y214.bn x3) ∧ 
 ((512 : Nat) = (512 : Nat) ∧ List.take 0 x.arr ++ List.take (min (List.length (List.drop (Int.toNat (↑(Int.toNat (x.i : Int)) : Int)) (List.take (Int.toNat (↑(List.length (ints (nats (ints x.bs)))) : Int)) (ints (nats (ints x.bs)))))) 512) (List.drop (Int.toNat (↑(Int.toNat (x.i : Int)) : Int)) (List.take (Int.toNat (↑(List.length (ints (nats (ints x.bs)))) : Int)) (ints (nats (ints x.bs))))) ++ List.drop ((0 : Nat) + min (List.length (List.drop (Int.toNat (↑(Int.toNat (x.i : Int)) : Int)) (List.take (Int.toNat (↑(List.length (ints (nats (ints x.bs)))) : Int)) (ints (nats (ints x.bs)))))) 512) x.arr = Y214.arr x3) ∧ 
 (x.sb = x.sb) ∧ 
 (x.vs = x.vs ∧ ints (nats (ints x.bs)) = ints x.bs) ∧ 
 ((↑(Int.toNat (x.i : Int)) : Int) = (x.i : Int)) ∧ 
 ((-1 : Int) = (-1 : Int)) ∧ 
 (True)) ∨
 (∃ x3 : (Y214), (List.length x.bs - x.i < n ∧ pk214 x n (List.length x.bs - x.i) x3) ∧ 
 (Value.slice (some (Addr.mk x.bb 3 none)) (Int.toNat (↑n : Int) - (0 : Nat)) 512 = Y214.pv x3 ∧ Int.toNat (↑n : Int) - (0 : Nat) = List.length x.bs - x.i) ∧ 
 (Value.nilIface = errV (Gl.E G)) ∧ 
 (x.m = x.m) ∧ 
 (relLe x.rel x.rel) ∧ 
 (x.bb = x.bb) ∧ 
 (x.sb = x.sb ∧ Off.lit 0 = Off.lit 0) ∧ 
 ((↑(Int.toNat (x.i : Int)) : Int) = (x.i : Int)) ∧ 
 (Value.slice (some (Addr.mk x.bb 3 none)) (Int.toNat (↑(min (List.length (List.drop (Int.toNat (↑(Int.toNat (x.i : Int)) : Int)) (List.take (Int.toNat (↑(List.length (ints (nats (ints x.bs)))) : Int)) (ints (nats (ints x.bs)))))) 512) : Int) - (0 : Nat)) 512 = Y214.bv x3 ∧ Int.toNat (↑(min (List.length (List.drop (Int.toNat (↑(Int.toNat (x.i : Int)) : Int)) (List.take (Int.toNat (↑(List.length (ints (nats (ints x.bs)))) : Int)) (ints (nats (ints x.bs)))))) 512) : Int) - (0 : Nat) = Y214.bn x3) ∧ 
 ((512 : Nat) = (512 : Nat) ∧ List.take 0 x.arr ++ List.take (min (List.length (List.drop (Int.toNat (↑(Int.toNat (x.i : Int)) : Int)) (List.take (Int.toNat (↑(List.length (ints (nats (ints x.bs)))) : Int)) (ints (nats (ints x.bs)))))) 512) (List.drop (Int.toNat (↑(Int.toNat (x.i : Int)) : Int)) (List.take (Int.toNat (↑(List.length (ints (nats (ints x.bs)))) : Int)) (ints (nats (ints x.bs))))) ++ List.drop ((0 : Nat) + min (List.length (List.drop (Int.toNat (↑(Int.toNat (x.i : Int)) : Int)) (List.take (Int.toNat (↑(List.length (ints (nats (ints x.bs)))) : Int)) (ints (nats (ints x.bs)))))) 512) x.arr = Y214.arr x3) ∧ 
 (x.sb = x.sb) ∧ 
 (x.vs = x.vs ∧ ints (nats (ints x.bs)) = ints x.bs) ∧ 
 ((↑(Int.toNat (x.i : Int)) : Int) = (x.i : Int)) ∧ 
 ((-1 : Int) = (-1 : Int)) ∧ 
 (True)))))
 (((0 : Int) ≤ (0 : Int) ∧ (0 : Int) ≤ (↑(min (List.length (List.drop (Int.toNat (↑(Int.toNat (x.i : Int)) : Int)) (List.take (Int.toNat (↑(List.length (ints (nats (ints x.bs)))) : Int)) (ints (nats (ints x.bs)))))) 512) : Int) ∧ (↑(min (List.length (List.drop (Int.toNat (↑(Int.toNat (x.i : Int)) : Int)) (List.take (Int.toNat (↑(List.length (ints (nats (ints x.bs)))) : Int)) (ints (nats (ints x.bs)))))) 512) : Int) ≤ (512 : Int) ∧ ((0 : Int) < (512 : Int) ∨ (0 : Int) = (0 : Int))) ∧ 
 (x.bb = x.bb) ∧ 
 Br (decide ((↑(min (List.length (List.drop (Int.toNat (↑(Int.toNat (x.i : Int)) : Int)) (List.take (Int.toNat (↑(List.length (ints (nats (ints x.bs)))) : Int)) (ints (nats (ints x.bs)))))) 512) : Int) < (↑n : Int)))
 (((0 : Int) ≤ (0 : Int) ∧ (0 : Int) ≤ (↑(min (List.length (List.drop (Int.toNat (↑(Int.toNat (x.i : Int)) : Int)) (List.take (Int.toNat (↑(List.length (ints (nats (ints x.bs)))) : Int)) (ints (nats (ints x.bs)))))) 512) : Int) ∧ (↑(min (List.length (List.drop (Int.toNat (↑(Int.toNat (x.i : Int)) : Int)) (List.take (Int.toNat (↑(List.length (ints (nats (ints x.bs)))) : Int)) (ints (nats (ints x.bs)))))) 512) : Int) ≤ (512 : Int) ∧ ((0 : Int) < (512 : Int) ∨ (0 : Int) = (0 : Int))) ∧ 
 ((∃ x3 : (Y214), (n ≤ List.length x.bs - x.i ∧ pk214 x n n x3) ∧ 
 (Value.slice (some (Addr.mk x.bb 3 none)) (Int.toNat (↑(min (List.length (List.drop (Int.toNat (↑(Int.toNat (x.i : Int)) : Int)) (List.take (Int.toNat (↑(List.length (ints (nats (ints x.bs)))) : Int)) (ints (nats (ints x.bs)))))) 512) : Int) - (0 : Nat)) 512 = Y214.pv x3 ∧ Int.toNat (↑(min (List.length (List.drop (Int.toNat (↑(Int.toNat (x.i : Int)) : Int)) (List.take (Int.toNat (↑(List.length (ints (nats (ints x.bs)))) : Int)) (ints (nats (ints x.bs)))))) 512) : Int) - (0 : Nat) = n) ∧ 
 (Value.nilIface = Value.nilIface) ∧ (x.m = x.m) ∧ 
 (relLe x.rel x.rel) ∧ 
 (x.bb = x.bb) ∧ 
 (x.sb = x.sb ∧ Off.lit 0 = Off.lit 0) ∧ 
 ((↑(Int.toNat (x.i : Int)) : Int) = (x.i : Int)) ∧ 
 (Value.slice (some (Addr.mk x.bb 3 none)) (Int.toNat (↑(min (List.length (List.drop (Int.toNat (↑(Int.toNat (x.i : Int)) : Int)) (List.take (Int.toNat (↑(List.length (ints (nats (ints x.bs)))) : Int)) (ints (nats (ints x.bs)))))) 512) : Int) - (0 : Nat)) 512 = Y214.bv x3 ∧ Int.toNat (↑(min (List.length (List.drop (Int.toNat (↑(Int.toNat (x.i : Int)) : Int)) (List.take (Int.toNat (↑(List.length (ints (nats (ints x.bs)))) : Int)) (ints (nats (ints x.bs)))))) 512) : Int) - (0 : Nat) = Y214.bn x3) ∧ 
 ((512 : Nat) = (512 : Nat) ∧ List.take 0 x.arr ++ List.take (min (List.length (List.drop (Int.toNat (↑(Int.toNat (x.i : Int)) : Int)) (List.take (Int.toNat (↑(List.length (ints (nats (ints x.bs)))) : Int)) (ints (nats (ints x.bs)))))) 512) (List.drop (Int.toNat (↑(Int.toNat (x.i : Int)) : Int)) (List.take (Int.toNat (↑(List.length (ints (nats (ints x.bs)))) : Int)) (ints (nats (ints x.bs))))) ++ List.drop ((0 : Nat) + min (List.length (List.drop (Int.toNat (↑(Int.toNat (x.i : Int)) : Int)) (List.take (Int.toNat (↑(List.length (ints (nats (ints x.bs)))) : Int)) (ints (nats (ints x.bs)))))) 512) x.arr = Y214.arr x3) ∧ 
 (x.sb = x.sb) ∧ 
 (x.vs = x.vs ∧ ints (nats (ints x.bs)) = ints x.bs) ∧ 
 ((↑(Int.toNat (x.i : Int)) : Int) = (x.i : Int)) ∧ 
 ((-1 : Int) = (-1 : Int)) ∧ 
 (True)) ∨
 (∃ x3 : (Y214), (List.length x.bs - x.i < n ∧ pk214 x n (List.length x.bs - x.i) x3) ∧ 
 (Value.slice (some (Addr.mk x.bb 3 none)) (Int.toNat (↑(min (List.length (List.drop (Int.toNat (↑(Int.toNat (x.i : Int)) : Int)) (List.take (Int.toNat (↑(List.length (ints (nats (ints x.bs)))) : Int)) (ints (nats (ints x.bs)))))) 512) : Int) - (0 : Nat)) 512 = Y214.pv x3 ∧ Int.toNat (↑(min (List.length (List.drop (Int.toNat (↑(Int.toNat (x.i : Int)) : Int)) (List.take (Int.toNat (↑(List.length (ints (nats (ints x.bs)))) : Int)) (ints (nats (ints x.bs)))))) 512) : Int) - (0 : Nat) = List.length x.bs - x.i) ∧ 
 (Value.nilIface = errV (Gl.E G)) ∧ 
 (x.m = x.m) ∧ 
 (relLe x.rel x.rel) ∧ 
 (x.bb = x.bb) ∧ 
 (x.sb = x.sb ∧ Off.lit 0 = Off.lit 0) ∧ 
 ((↑(Int.toNat (x.i : Int)) : Int) = (x.i : Int)) ∧ 
 (Value.slice (some (Addr.mk x.bb 3 none)) (Int.toNat (↑(min (List.length (List.drop (Int.toNat (↑(Int.toNat (x.i : Int)) : Int)) (List.take (Int.toNat (↑(List.length (ints (nats (ints x.bs)))) : Int)) (ints (nats (ints x.bs)))))) 512) : Int) - (0 : Nat)) 512 = Y214.bv x3 ∧ Int.toNat (↑(min (List.length (List.drop (Int.toNat (↑(Int.toNat (x.i : Int)) : Int)) (List.take (Int.toNat (↑(List.length (ints (nats (ints x.bs)))) : Int)) (ints (nats (ints x.bs)))))) 512) : Int) - (0 : Nat) = Y214.bn x3) ∧ 
 ((512 : Nat) = (512 : Nat) ∧ List.take 0 x.arr ++ List.take (min (List.length (List.drop (Int.toNat (↑(Int.toNat (x.i : Int)) : Int)) (List.take (Int.toNat (↑(List.length (ints (nats (ints x.bs)))) : Int)) (ints (nats (ints x.bs)))))) 512) (List.drop (Int.toNat (↑(Int.toNat (x.i : Int)) : Int)) (List.take (Int.toNat (↑(List.length (ints (nats (ints x.bs)))) : Int)) (ints (nats (ints x.bs))))) ++ List.drop ((0 : Nat) + min (List.length (List.drop (Int.toNat (↑(Int.toNat (x.i : Int)) : Int)) (List.take (Int.toNat (↑(List.length (ints (nats (ints x.bs)))) : Int)) (ints (nats (ints x.bs)))))) 512) x.arr = Y214.arr x3) ∧ 
 (x.sb = x.sb) ∧ 
 (x.vs = x.vs ∧ ints (nats (ints x.bs)) = ints x.bs) ∧ 
 ((↑(Int.toNat (x.i : Int)) : Int) = (x.i : Int)) ∧ 
 ((-1 : Int) = (-1 : Int)) ∧ 
 (True))))
 (((0 : Int) ≤ (0 : Int) ∧ (0 : Int) ≤ (↑n : Int) ∧ (↑n : Int) ≤ (512 : Int) ∧ ((0 : Int) < (512 : Int) ∨ (0 : Int) = (0 : Int))) ∧ 
 ((∃ x3 : (Y214), (n ≤ List.length x.bs - x.i ∧ pk214 x n n x3) ∧ 
 (Value.slice (some (Addr.mk x.bb 3 none)) (Int.toNat (↑n : Int) - (0 : Nat)) 512 = Y214.pv x3 ∧ Int.toNat (↑n : Int) - (0 : Nat) = n) ∧ 
 (Value.nilIface = Value.nilIface) ∧ (x.m = x.m) ∧ 
 (relLe x.rel x.rel) ∧ 
 (x.bb = x.bb) ∧ 
 (x.sb = x.sb ∧ Off.lit 0 = Off.lit 0) ∧ 
 ((↑(Int.toNat (x.i : Int)) : Int) = (x.i : Int)) ∧ 
 (Value.slice (some (Addr.mk x.bb 3 none)) (Int.toNat (↑(min (List.length (List.drop (Int.toNat (↑(Int.toNat (x.i : Int)) : Int)) (List.take (Int.toNat (↑(List.length (ints (nats (ints x.bs)))) : Int)) (ints (nats (ints x.bs)))))) 512) : Int) - (0 : Nat)) 512 = Y214.bv x3 ∧ Int.toNat (↑(min (List.length (List.drop (Int.toNat (↑(Int.toNat (x.i : Int)) : Int)) (List.take (Int.toNat (↑(List.length (ints (nats (ints x.bs)))) : Int)) (ints (nats (ints x.bs)))))) 512) : Int) - (0 : Nat) = Y214.bn x3) ∧ 
 ((512 : Nat) = (512 : Nat) ∧ List.take 0 x.arr ++ List.take (min (List.length (List.drop (Int.toNat (↑(Int.toNat (x.i : Int)) : Int)) (List.take (Int.toNat (↑(List.length (ints (nats (ints x.bs)))) : Int)) (ints (nats (ints x.bs)))))) 512) (List.drop (Int.toNat (↑(Int.toNat (x.i : Int)) : Int)) (List.take (Int.toNat (↑(List.length (ints (nats (ints x.bs)))) : Int)) (ints (nats (ints x.bs))))) ++ List.drop ((0 : Nat) + min (List.length (List.drop (Int.toNat (↑(Int.toNat (x.i : Int)) : Int)) (List.take (Int.toNat (↑(List.length (ints (nats (ints x.bs)))) : Int)) (ints (nats (ints x.bs)))))) 512) x.arr = Y214.arr x3) ∧ 
 (x.sb = x.sb) ∧ 
 (x.vs = x.vs ∧ ints (nats (ints x.bs)) = ints x.bs) ∧ 
 ((↑(Int.toNat (x.i : Int)) : Int) = (x.i : Int)) ∧ 
 ((-1 : Int) = (-1 : Int)) ∧ 
 (True)) ∨
 (∃ x3 : (Y214), (List.length x.bs - x.i < n ∧ pk214 x n (List.length x.bs - x.i) x3) ∧ 
 (Value.slice (some (Addr.mk x.bb 3 none)) (Int.toNat (↑n : Int) - (0 : Nat)) 512 = Y214.pv x3 ∧ Int.toNat (↑n : Int) - (0 : Nat) = List.length x.bs - x.i) ∧ 
 (Value.nilIface = errV (Gl.E G)) ∧ 
 (x.m = x.m) ∧ 
 (relLe x.rel x.rel) ∧ 
 (x.bb = x.bb) ∧ 
 (x.sb = x.sb ∧ Off.lit 0 = Off.lit 0) ∧ 
 ((↑(Int.toNat (x.i : Int)) : Int) = (x.i : Int)) ∧ 
 (Value.slice (some (Addr.mk x.bb 3 none)) (Int.toNat (↑(min (List.length (List.drop (Int.toNat (↑(Int.toNat (x.i : Int)) : Int)) (List.take (Int.toNat (↑(List.length (ints (nats (ints x.bs)))) : Int)) (ints (nats (ints x.bs)))))) 512) : Int) - (0 : Nat)) 512 = Y214.bv x3 ∧ Int.toNat (↑(min (List.length (List.drop (Int.toNat (↑(Int.toNat (x.i : Int)) : Int)) (List.take (Int.toNat (↑(List.length (ints (nats (ints x.bs)))) : Int)) (ints (nats (ints x.bs)))))) 512) : Int) - (0 : Nat) = Y214.bn x3) ∧ 
 ((512 : Nat) = (512 : Nat) ∧ List.take 0 x.arr ++ List.take (min (List.length (List.drop (Int.toNat (↑(Int.toNat (x.i : Int)) : Int)) (List.take (Int.toNat (↑(List.length (ints (nats (ints x.bs)))) : Int)) (ints (nats (ints x.bs)))))) 512) (List.drop (Int.toNat (↑(Int.toNat (x.i : Int)) : Int)) (List.take (Int.toNat (↑(List.length (ints (nats (ints x.bs)))) : Int)) (ints (nats (ints x.bs))))) ++ List.drop ((0 : Nat) + min (List.length (List.drop (Int.toNat (↑(Int.toNat (x.i : Int)) : Int)) (List.take (Int.toNat (↑(List.length (ints (nats (ints x.bs)))) : Int)) (ints (nats (ints x.bs)))))) 512) x.arr = Y214.arr x3) ∧ 
 (x.sb = x.sb) ∧ 
 (x.vs = x.vs ∧ ints (nats (ints x.bs)) = ints x.bs) ∧ 
 ((↑(Int.toNat (x.i : Int)) : Int) = (x.i : Int)) ∧ 
 ((-1 : Int) = (-1 : Int)) ∧ 
 (True))))))))
noncomputable def law_c214 (G : Gl) (x : RB) (n : Nat) : VCT := fnx (CH G 2) (INH G 2 b217 NA) noAnn Tryz.f214 ((c214 G).args (x, n)) ((c214 G).H (x, n)) (outK true 4 ((c214 G).ret (x, n))) ((c214 G).pan (x, n))
theorem eq_c214 (G : Gl) (x : RB) (n : Nat) : cond_c214 G x n = (law_c214 G x n).den := by kernel_rfl
theorem ok_c217 (G : Gl) (x : RB) (hx : rbOK x) : cond_c217 G x := by
  unfold cond_c217
  obtain ⟨ha, hp, hi, hl, hv⟩ := hx
  have hc := vw_cap hv
  simp only [br_d, rel_self, true_and, and_true, inI64, Int.toNat_natCast]
  refine ⟨by omega, by omega, fun h1 => ⟨fun h2 => ⟨by omega, ⟨sliceVal x.bv (x.i - x.pos) x.bn 1, x.bn - (x.i - x.pos)⟩, ⟨rfl, vw_at (vw_sub hv (by omega) (Nat.le_refl _)) (by omega)⟩, by omega, ⟨?_, ?_⟩, by omega⟩, fun h2 => ⟨⟨.slice none 0 0, 0⟩, ⟨by dsimp only; omega, vw_nil _ _ _ _⟩, by omega, ⟨rfl, rfl⟩, by omega⟩⟩, fun h1 => by omega⟩
  · congr 1; omega
  · dsimp only; omega
theorem ok_c212 (G : Gl) (x : RB) (hx : rbOK x) : cond_c212 G x := by
  unfold cond_c212
  have hx' := hx
  obtain ⟨ha, hp, hi, hl, hv⟩ := hx
  have e3 : ∀ l : List Nat, nats (ints l) = l := nats_ints
  simp only [br_d, rel_self, true_and, and_true, inI64, Int.toNat_natCast, e3, ints_len]
  refine fun m => ⟨⟨ha, hp, hi, hl, hv⟩, fun y hy => ?_⟩
  have h2 := vw_end hv
  refine ⟨fun h1 => ⟨rfl, fun _ => ⟨y, hy, by omega, rfl, rfl⟩, fun h2 => absurd h1 h2⟩, fun h1 => ⟨by omega, rfl, fun h2 => ⟨y, hy, rfl, rfl, rfl⟩, fun h2 => ⟨fun h3 => absurd h3 h1, fun h3 => ⟨by omega, y, hy, by omega, rfl, rfl⟩⟩⟩⟩
theorem ok_c213 (G : Gl) (x : RB) (n : Nat) (hx : rbOK x) (hn : x.i + n ≤ x.bs.length) : cond_c213 G x n := by
  unfold cond_c213
  obtain ⟨ha, hp, hi, hl, hv⟩ := hx
  simp only [br_d, rel_self, true_and, and_true, inI64, ints_len]
  exact ⟨fun h1 => ⟨fun h2 => by omega, fun h2 => ⟨by omega, (), by omega⟩⟩, fun h1 => ⟨by omega, fun h2 => by omega, fun h2 => ⟨by omega, (), by omega⟩⟩⟩
theorem vw_fill {b : Nat} {bs : List Nat} {rest : List Int} {i k : Nat} (hi : i ≤ bs.length) (hk : k ≤ bs.length - i) (h512 : bs.length ≤ 512) : vw b (ints (bs.drop i) ++ rest) bs (.slice (some ⟨b, 3, none⟩) k 512) k i := by
  refine .inr ⟨0, 512, rfl, by omega, by omega, by omega, ?_⟩
  rw [List.drop_zero, List.take_append_of_le_length (by rw [ints_len, List.length_drop]; exact hk)]
  simp [ints, List.map_take]
theorem ok_c214 (G : Gl) (x : RB) (n : Nat) (hx : rbOK x) (hn : n ≤ 512) : cond_c214 G x n := by
  unfold cond_c214
  obtain ⟨ha, hp, hi, hl, hv⟩ := hx
  have e3 : ∀ l : List Nat, nats (ints l) = l := nats_ints
  have e12 : List.drop x.i (List.take x.bs.length (ints x.bs)) = ints (x.bs.drop x.i) := by rw [← ints_drop x.bs x.i, ints_len]
  have e13 : min (x.bs.length - x.i) 512 = x.bs.length - x.i := by omega
  have e14 : List.take (x.bs.length - x.i) (ints (x.bs.drop x.i)) = ints (x.bs.drop x.i) := List.take_of_length_le (by rw [ints_len, List.length_drop]; exact Nat.le_refl _)
  simp only [br_d, rel_self, true_and, and_true, Int.toNat_natCast, e3, ints_len, e12, List.length_drop, e13, e14, List.take_zero, List.nil_append, Nat.zero_add, Nat.sub_zero]
  refine ⟨fun h => by omega, fun _ m => ⟨⟨ha, hp, hi, hl, hv⟩, fun y hy => ⟨fun h1 => ⟨by have := vw_cap hy.2; omega, .inl ⟨⟨sliceVal y.1 0 n 1, y.1, y.2, x.arr⟩, ⟨?_, ha, vw_sub hy.2 (Nat.zero_le _) (by omega), hy.2, by dsimp only; omega⟩, rfl, ⟨rfl, rfl⟩, rfl⟩⟩, fun h1 => ⟨by simp, fun h2 => ⟨by simp, fun h3 => ⟨by simp, .inr ⟨⟨.slice (some ⟨x.bb, 3, none⟩) 0 512, .slice (some ⟨x.bb, 3, none⟩) 0 512, 0, x.arr⟩, ⟨by omega, ha, ?_, ?_, by dsimp only; omega⟩, ⟨rfl, by omega⟩, ⟨rfl, rfl⟩, rfl⟩⟩, fun h3 => by omega⟩, fun h2 => ⟨by omega, by omega, fun h3 => ⟨by omega, fun h4 => ⟨by omega, .inr ⟨⟨.slice (some ⟨x.bb, 3, none⟩) (x.bs.length - x.i) 512, .slice (some ⟨x.bb, 3, none⟩) (x.bs.length - x.i) 512, x.bs.length - x.i, _⟩, ⟨by omega, ?_, vw_fill hi (Nat.le_refl _) (by omega), vw_fill hi (Nat.le_refl _) (by omega), Nat.le_refl _⟩, rfl, ⟨rfl, rfl⟩, rfl⟩⟩, fun h4 => ⟨by omega, .inl ⟨⟨.slice (some ⟨x.bb, 3, none⟩) n 512, .slice (some ⟨x.bb, 3, none⟩) (x.bs.length - x.i) 512, x.bs.length - x.i, _⟩, ⟨by omega, ?_, vw_fill hi (by omega) (by omega), vw_fill hi (Nat.le_refl _) (by omega), by dsimp only; omega⟩, rfl, ⟨rfl, rfl⟩, rfl⟩⟩⟩, fun h3 => by omega⟩⟩⟩⟩⟩
  · have := vw_end hv; omega
  · have e : x.bs.length - x.i = 0 := by omega
    dsimp only
    rw [e]
    exact .inr ⟨0, 512, rfl, by omega, by omega, by omega, by simp [ints]⟩
  · dsimp only
    exact .inr ⟨0, 512, rfl, by omega, by omega, by omega, by simp [ints]⟩
  · simp [ints_len]; omega
  · simp [ints_len]; omega
theorem s217 (G : Gl) : SpecOK (CC G) 217 c217.pt := specH G 2 (no_ok G) (fn := Tryz.f217) rfl NA c217 (fun _ => noAnn) fun x h => Met.of (eq_c217 G x) (ok_c217 G x h)
theorem b217_ok (G : Gl) : ∀ f pt, b217 f = some pt → SpecOK (CC G) f pt := by
  intro f pt h
  unfold b217 at h
  split at h
  · cases h; exact loc_ok (s217 G) _
  · cases h
theorem s212 (G : Gl) : SpecOK (CC G) 212 c212.pt := specH G 2 (b217_ok G) (fn := Tryz.f212) rfl NA c212 (fun _ => noAnn) fun x h => Met.of (eq_c212 G x) (ok_c212 G x h)
theorem s213 (G : Gl) : SpecOK (CC G) 213 c213.pt := specH G 2 (no_ok G) (fn := Tryz.f213) rfl NA c213 (fun _ => noAnn) fun ⟨x, n⟩ h => Met.of (eq_c213 G x n) (ok_c213 G x n h.1 h.2)
theorem s214 (G : Gl) : SpecOK (CC G) 214 (c214 G).pt := specH G 2 (b217_ok G) (fn := Tryz.f214) rfl NA (c214 G) (fun _ => noAnn) fun ⟨x, n⟩ h => Met.of (eq_c214 G x n) (ok_c214 G x n h.1 h.2)
end Pc
/-
  The reader does what its contracts say (part 1).
-/
set_option linter.unusedVariables false
set_option maxRecDepth 100000
open Go Go.Vg Go.Proofs
namespace Pc
def cond_c164 (G : Gl) (m : Fz) (rel : Rel TT) (n : Nat) : Prop :=
 ((0 : Int) ≤ (1 : Int)) ∧ 
 ((0 : Int) ≤ (1 : Int)) ∧ 
 ((0 : Int) ≤ (2 : Int)) ∧ 
 ((0 : Int) ≤ (2 : Int)) ∧ 
 ((0 : Int) ≤ (4 : Int)) ∧ 
 ((0 : Int) ≤ (4 : Int)) ∧ 
 ∃ x1 : (Unit), (True) ∧ 
 (bitI BinOp.or IntKind.u8 (shrI IntKind.u8 (bitI BinOp.and IntKind.u8 (bitI BinOp.or IntKind.u8 (shrI IntKind.u8 (bitI BinOp.and IntKind.u8 (bitI BinOp.or IntKind.u8 (shrI IntKind.u8 (bitI BinOp.and IntKind.u8 (↑n : Int) (170 : Int)) (1 : Int)) (shlI IntKind.u8 (bitI BinOp.and IntKind.u8 (↑n : Int) (85 : Int)) (1 : Int))) (204 : Int)) (2 : Int)) (shlI IntKind.u8 (bitI BinOp.and IntKind.u8 (bitI BinOp.or IntKind.u8 (shrI IntKind.u8 (bitI BinOp.and IntKind.u8 (↑n : Int) (170 : Int)) (1 : Int)) (shlI IntKind.u8 (bitI BinOp.and IntKind.u8 (↑n : Int) (85 : Int)) (1 : Int))) (51 : Int)) (2 : Int))) (240 : Int)) (4 : Int)) (shlI IntKind.u8 (bitI BinOp.and IntKind.u8 (bitI BinOp.or IntKind.u8 (shrI IntKind.u8 (bitI BinOp.and IntKind.u8 (bitI BinOp.or IntKind.u8 (shrI IntKind.u8 (bitI BinOp.and IntKind.u8 (↑n : Int) (170 : Int)) (1 : Int)) (shlI IntKind.u8 (bitI BinOp.and IntKind.u8 (↑n : Int) (85 : Int)) (1 : Int))) (204 : Int)) (2 : Int)) (shlI IntKind.u8 (bitI BinOp.and IntKind.u8 (bitI BinOp.or IntKind.u8 (shrI IntKind.u8 (bitI BinOp.and IntKind.u8 (↑n : Int) (170 : Int)) (1 : Int)) (shlI IntKind.u8 (bitI BinOp.and IntKind.u8 (↑n : Int) (85 : Int)) (1 : Int))) (51 : Int)) (2 : Int))) (15 : Int)) (4 : Int)) = (↑(numL (byteBits true n)) : Int)) ∧ 
 (m = m) ∧ (relLe rel rel) ∧ 
 (True)
noncomputable def law_c164 (G : Gl) (m : Fz) (rel : Rel TT) (n : Nat) : VCT := fnx (CC G) (IN G no NA) noAnn Tryz.f164 (c164.args (m, rel, n)) (c164.H (m, rel, n)) (outK true 2 (c164.ret (m, rel, n))) (c164.pan (m, rel, n))
theorem eq_c164 (G : Gl) (m : Fz) (rel : Rel TT) (n : Nat) : cond_c164 G m rel n = (law_c164 G m rel n).den := by kernel_rfl
def cond_c80 (G : Gl) (P : Nat) (x : RS) : Prop :=
 (x.rb = x.rb) ∧ (x.rb = x.rb) ∧ (x.rb = x.rb) ∧ (x.rb = x.rb) ∧ (inI64 (IntKind.wrap IntKind.u64 ((x.fed : Int) - (x.num : Int)))) ∧ 
 (inI64 (x.dis + IntKind.wrap IntKind.u64 ((x.fed : Int) - (x.num : Int)))) ∧ 
 (x.rb = x.rb) ∧ (x.rb = x.rb) ∧ (x.rb = x.rb) ∧ (x.rb = x.rb) ∧ (inI64 (x.dis + IntKind.wrap IntKind.u64 ((x.fed : Int) - (x.num : Int)) + (7 : Int))) ∧ 
 ((8 : Int) ≠ (0 : Int)) ∧ 
 (x.rb = x.rb) ∧ ∀ x1 : (Nat → Option Obj), (rbOK (RB.mk x1 x.rel x.bb x.sb (Int.toNat (x.pos : Int)) x.bv x.bn x.arr x.vs (nats (ints x.bs)) (Int.toNat (x.off : Int)) x.prev) ∧ Int.toNat (x.off : Int) + Int.toNat (IntKind.wrap IntKind.i64 (Int.tdiv (x.dis + IntKind.wrap IntKind.u64 ((x.fed : Int) - (x.num : Int)) + (7 : Int)) (8 : Int))) ≤ List.length (nats (ints x.bs))) ∧ 
 (x.bb = x.bb ∧ Off.lit 0 = Off.lit 0) ∧ 
 (IntKind.wrap IntKind.i64 (Int.tdiv (x.dis + IntKind.wrap IntKind.u64 ((x.fed : Int) - (x.num : Int)) + (7 : Int)) (8 : Int)) = (↑(Int.toNat (IntKind.wrap IntKind.i64 (Int.tdiv (x.dis + IntKind.wrap IntKind.u64 ((x.fed : Int) - (x.num : Int)) + (7 : Int)) (8 : Int)))) : Int)) ∧ 
 (x1 = x1) ∧ 
 (relLe x.rel x.rel) ∧ 
 (x.bb = x.bb) ∧ 
 (x.sb = x.sb ∧ Off.lit 0 = Off.lit 0) ∧ 
 ((x.pos : Int) = (↑(Int.toNat (x.pos : Int)) : Int)) ∧ 
 (x.bv = x.bv ∧ x.bn = x.bn) ∧ 
 ((512 : Nat) = (512 : Nat) ∧ x.arr = x.arr) ∧ 
 (x.sb = x.sb) ∧ 
 (x.vs = x.vs ∧ ints x.bs = ints (nats (ints x.bs))) ∧ 
 ((x.off : Int) = (↑(Int.toNat (x.off : Int)) : Int)) ∧ 
 (x.prev = x.prev) ∧ 
 ∀ x2 : (Unit), ((True) → 
 (x1 = x1) ∧ 
 (x.rb = x.rb) ∧ (inI64 ((↑(Int.toNat (IntKind.wrap IntKind.i64 (Int.tdiv (x.dis + IntKind.wrap IntKind.u64 ((x.fed : Int) - (x.num : Int)) + (7 : Int)) (8 : Int)))) : Int) * (8 : Int))) ∧ 
 (inI64 (x.dis + IntKind.wrap IntKind.u64 ((x.fed : Int) - (x.num : Int)) - (↑(Int.toNat (IntKind.wrap IntKind.i64 (Int.tdiv (x.dis + IntKind.wrap IntKind.u64 ((x.fed : Int) - (x.num : Int)) + (7 : Int)) (8 : Int)))) : Int) * (8 : Int))) ∧ 
 (x.rb = x.rb) ∧ (x.rb = x.rb) ∧ (inI64 ((x.off : Int) + (↑(Int.toNat (IntKind.wrap IntKind.i64 (Int.tdiv (x.dis + IntKind.wrap IntKind.u64 ((x.fed : Int) - (x.num : Int)) + (7 : Int)) (8 : Int)))) : Int))) ∧ 
 (x.rb = x.rb) ∧ (x.rb = x.rb) ∧ (x.rb = x.rb) ∧ ∃ x3 : (Unit), (True) ∧ 
 ((x.off : Int) + (↑(Int.toNat (IntKind.wrap IntKind.i64 (Int.tdiv (x.dis + IntKind.wrap IntKind.u64 ((x.fed : Int) - (x.num : Int)) + (7 : Int)) (8 : Int)))) : Int) = (↑((RS.P x + (7 : Nat)) / (8 : Nat)) : Int)) ∧ 
 (Value.nilIface = Value.nilIface) ∧ (x.m = x.m) ∧ 
 (relLe x.rel x.rel) ∧ 
 (x.rb = x.rb) ∧ 
 ((x.off : Int) + (↑(Int.toNat (IntKind.wrap IntKind.i64 (Int.tdiv (x.dis + IntKind.wrap IntKind.u64 ((x.fed : Int) - (x.num : Int)) + (7 : Int)) (8 : Int)))) : Int) = (↑((RS.P x + (7 : Nat)) / (8 : Nat)) : Int)) ∧ 
 (x.sb = x.sb ∧ Off.lit 0 = Off.lit 0) ∧ 
 (Value.nilIface = Value.nilIface) ∧ (x.bb = x.bb ∧ Off.lit 0 = Off.lit 0) ∧ 
 ((x.bits : Int) = (x.bits : Int)) ∧ 
 ((x.num : Int) = (x.num : Int)) ∧ 
 (x.big = x.big) ∧ 
 (Value.slice none 0 0 = Value.slice none 0 0 ∧ Value.slice none 0 0 = Value.slice none 0 0 ∧ (0 : Nat) = (0 : Nat)) ∧ 
 (x.dis + IntKind.wrap IntKind.u64 ((x.fed : Int) - (x.num : Int)) - (↑(Int.toNat (IntKind.wrap IntKind.i64 (Int.tdiv (x.dis + IntKind.wrap IntKind.u64 ((x.fed : Int) - (x.num : Int)) + (7 : Int)) (8 : Int)))) : Int) * (8 : Int) = (↑(RS.P x) : Int) - (8 : Int) * (↑((RS.P x + (7 : Nat)) / (8 : Nat)) : Int)) ∧ 
 ((x.num : Int) = (x.num : Int)) ∧ 
 (Value.pointer none = Value.pointer none) ∧ (x.bb = x.bb ∧ Off.lit 0 = Off.lit 0) ∧ 
 (Value.pointer none = Value.pointer none) ∧ (x.sb = x.sb) ∧ 
 (x.vs = x.vs ∧ ints (nats (ints x.bs)) = ints x.bs) ∧ 
 ((↑(Int.toNat (x.off : Int) + Int.toNat (IntKind.wrap IntKind.i64 (Int.tdiv (x.dis + IntKind.wrap IntKind.u64 ((x.fed : Int) - (x.num : Int)) + (7 : Int)) (8 : Int)))) : Int) = (↑((RS.P x + (7 : Nat)) / (8 : Nat)) : Int)) ∧ 
 ((-1 : Int) = (-1 : Int)) ∧ 
 (x.bb = x.bb) ∧ 
 (x.sb = x.sb ∧ Off.lit 0 = Off.lit 0) ∧ 
 ((↑(Int.toNat (x.pos : Int)) : Int) = (x.pos : Int)) ∧ 
 (x.bv = x.bv ∧ x.bn = x.bn) ∧ 
 ((512 : Nat) = (512 : Nat) ∧ x.arr = x.arr) ∧ 
 (True))
noncomputable def law_c80 (G : Gl) (P : Nat) (x : RS) : VCT := fnx (CH G 4) (INH G 4 b80 NA) noAnn Tryz.f80 ((c80 P).args x) ((c80 P).H x) (outK true 5 ((c80 P).ret x)) ((c80 P).pan x)
theorem eq_c80 (G : Gl) (P : Nat) (x : RS) : cond_c80 G P x = (law_c80 G P x).den := by kernel_rfl
theorem ok_c164 (G : Gl) (m : Fz) (rel : Rel TT) (n : Nat) (hn : n < 256) : cond_c164 G m rel n := by
  unfold cond_c164
  refine ⟨by decide, by decide, by decide, by decide, by decide, by decide, (), trivial, ?_, rfl, relLe.refl _, trivial⟩
  exact lut_ok ⟨n, hn⟩
theorem ok_c80 (G : Gl) (P : Nat) (x : RS) (hx : rsW x) : cond_c80 G P x := by
  unfold cond_c80
  obtain ⟨h1, h2, e0, h4, h5, h6, h7, h8, h9, h10, h11, hd, hf⟩ := hx
  have e1 : IntKind.u64.wrap ((x.fed : Int) - (x.num : Int)) = (x.fed : Int) - (x.num : Int) := by rw [wr64]; omega
  have e2 : x.dis + ((x.fed : Int) - (x.num : Int)) = (x.P : Int) - 8 * x.off := by omega
  have e4 : Int.tdiv ((x.P : Int) - 8 * x.off + 7) 8 = (((x.P + 7) / 8 - x.off : Nat) : Int) := by rw [Int.tdiv_eq_ediv_of_nonneg (by omega)]; omega
  have e5 : IntKind.i64.wrap (((x.P + 7) / 8 - x.off : Nat) : Int) = (((x.P + 7) / 8 - x.off : Nat) : Int) := wrI (by omega) (by omega)
  have e3 : ∀ l : List Nat, nats (ints l) = l := nats_ints
  simp only [e1, e2, e4, e5, e3, rel_self, true_and, and_true, inI64, Int.toNat_natCast]
  refine ⟨by omega, by omega, by omega, by decide, fun m => ⟨⟨⟨h8, h7, by dsimp only; omega, h2, h10⟩, by omega⟩, fun _ _ => ⟨by omega, by omega, by omega, (), by omega, by omega, by omega, by omega⟩⟩⟩
theorem s164 (G : Gl) : SpecOK (CC G) 164 c164.pt := spec G (no_ok G) (fn := Tryz.f164) rfl NA c164 (fun _ => noAnn) fun ⟨m, rel, n⟩ h => Met.of (eq_c164 G m rel n) (ok_c164 G m rel n h)
theorem b80_ok (G : Gl) : ∀ f pt, b80 f = some pt → SpecOK (CC G) f pt := by
  intro f pt h
  unfold b80 at h
  split at h
  · cases h; exact loc_ok (s213 G) _
  · cases h
theorem s80 (G : Gl) (P : Nat) : SpecOK (CC G) 80 (c80 P).pt := specH G 4 (b80_ok G) (fn := Tryz.f80) rfl NA (c80 P) (fun _ => noAnn) fun x h => Met.of (eq_c80 G P x) (ok_c80 G P x h)
end Pc
/-
  PullBits does what its contract says.
-/
set_option linter.unusedVariables false
set_option maxRecDepth 100000
open Go Go.Vg Go.Proofs
namespace Pc
def cond_c143 (G : Gl) (P : Nat) (x : RS) (nb : Nat) : Prop :=
 (x.rb = x.rb) ∧ (x.rb = x.rb) ∧ (x.rb = x.rb) ∧ (x.rb = x.rb) ∧ (inI64 (IntKind.wrap IntKind.u64 ((x.fed : Int) - (x.num : Int)))) ∧ 
 (inI64 (x.dis + IntKind.wrap IntKind.u64 ((x.fed : Int) - (x.num : Int)))) ∧ 
 (x.rb = x.rb) ∧ (∃ x1 : (RV), (plOK x x1) ∧ 
 (x.m = x.m) ∧ (relLe x.rel x.rel) ∧ 
 (x.rb = x.rb) ∧ 
 ((x.off : Int) = (x1.off : Int)) ∧ 
 (x.sb = x.sb ∧ Off.lit 0 = Off.lit 0) ∧ 
 (Value.nilIface = Value.nilIface) ∧ (x.bb = x.bb ∧ Off.lit 0 = Off.lit 0) ∧ 
 ((x.bits : Int) = (x1.bits : Int)) ∧ 
 ((x.num : Int) = (x1.num : Int)) ∧ 
 (x.big = x.big) ∧ 
 (x.pk = x1.pk ∧ x.pkn = x1.pkn) ∧ 
 (x.dis + IntKind.wrap IntKind.u64 ((x.fed : Int) - (x.num : Int)) = x1.dis) ∧ 
 ((x.fed : Int) = (x1.fed : Int)) ∧ 
 (Value.pointer none = Value.pointer none) ∧ (x.bb = x.bb ∧ Off.lit 0 = Off.lit 0) ∧ 
 (Value.pointer none = Value.pointer none) ∧ (x.sb = x.sb) ∧ 
 (x.vs = x.vs ∧ ints x.bs = ints x.bs) ∧ 
 ((x.off : Int) = (x1.off : Int)) ∧ 
 (x.prev = x1.prev) ∧ 
 (x.bb = x.bb) ∧ 
 (x.sb = x.sb ∧ Off.lit 0 = Off.lit 0) ∧ 
 ((x.pos : Int) = (x1.pos : Int)) ∧ 
 (x.bv = x1.bv ∧ x.bn = x1.bn) ∧ 
 ((512 : Nat) = (512 : Nat) ∧ x.arr = x1.arr) ∧ 
 ∀ x2 : (RV), ((plOK x x2) → 
 ((x.rb = x.rb) ∧ 
 Br ((x2.pkn : Int) == (0 : Int))
 ((x.rb = x.rb) ∧ 
 (x.rb = x.rb) ∧ 
 ∃ x3 : (Nat), ∀ x4 : (Nat → Option Obj), (rsW (RS.mk x4 x.rel x.rb x.sb x.bb x.vs (nats (ints x.bs)) x.big x3 (Int.toNat (x2.off : Int)) (Int.toNat (x2.bits : Int)) (Int.toNat (x2.num : Int)) x2.pk x2.pkn x2.dis (Int.toNat (x2.num : Int)) (Int.toNat (x2.pos : Int)) x2.bv x2.bn x2.arr x2.prev)) ∧ 
 (x.rb = x.rb ∧ Off.lit 0 = Off.lit 0) ∧ 
 (x4 = x4) ∧ 
 (relLe x.rel x.rel) ∧ 
 (x.rb = x.rb) ∧ 
 ((x2.off : Int) = (↑(Int.toNat (x2.off : Int)) : Int)) ∧ 
 (x.sb = x.sb ∧ Off.lit 0 = Off.lit 0) ∧ 
 (Value.nilIface = Value.nilIface) ∧ (x.bb = x.bb ∧ Off.lit 0 = Off.lit 0) ∧ 
 ((x2.bits : Int) = (↑(Int.toNat (x2.bits : Int)) : Int)) ∧ 
 ((x2.num : Int) = (↑(Int.toNat (x2.num : Int)) : Int)) ∧ 
 (x.big = x.big) ∧ 
 (x2.pk = x2.pk ∧ x2.pkn = x2.pkn) ∧ 
 (x2.dis = x2.dis) ∧ 
 ((x2.num : Int) = (↑(Int.toNat (x2.num : Int)) : Int)) ∧ 
 (Value.pointer none = Value.pointer none) ∧ (x.bb = x.bb ∧ Off.lit 0 = Off.lit 0) ∧ 
 (Value.pointer none = Value.pointer none) ∧ (x.sb = x.sb) ∧ 
 (x.vs = x.vs ∧ ints x.bs = ints (nats (ints x.bs))) ∧ 
 ((x2.off : Int) = (↑(Int.toNat (x2.off : Int)) : Int)) ∧ 
 (x2.prev = x2.prev) ∧ 
 (x.bb = x.bb) ∧ 
 (x.sb = x.sb ∧ Off.lit 0 = Off.lit 0) ∧ 
 ((x2.pos : Int) = (↑(Int.toNat (x2.pos : Int)) : Int)) ∧ 
 (x2.bv = x2.bv ∧ x2.bn = x2.bn) ∧ 
 ((512 : Nat) = (512 : Nat) ∧ x2.arr = x2.arr) ∧ 
 ∀ x5 : (Unit), ((True) → 
 (x4 = x4) ∧ 
 (inI64 (IntKind.wrap IntKind.u64 ((↑nb : Int) + bitI BinOp.and IntKind.u64 (IntKind.wrap IntKind.u64 ((0 : Int) - (↑nb : Int))) (7 : Int)))) ∧ 
 ((8 : Int) ≠ (0 : Int)) ∧ 
 ((x.rb = x.rb) ∧ 
 ∀ x6 : (Nat → Option Obj), (rbOK (RB.mk x6 x.rel x.bb x.sb (Int.toNat (↑(Int.toNat (x2.pos : Int)) : Int)) x2.bv x2.bn x2.arr x.vs (nats (ints (nats (ints x.bs)))) (Int.toNat (↑((x3 + (7 : Nat)) / (8 : Nat)) : Int)) (-1 : Int))) ∧ 
 (x.bb = x.bb ∧ Off.lit 0 = Off.lit 0) ∧ 
 (x6 = x6) ∧ 
 (relLe x.rel x.rel) ∧ 
 (x.bb = x.bb) ∧ 
 (x.sb = x.sb ∧ Off.lit 0 = Off.lit 0) ∧ 
 ((↑(Int.toNat (x2.pos : Int)) : Int) = (↑(Int.toNat (↑(Int.toNat (x2.pos : Int)) : Int)) : Int)) ∧ 
 (x2.bv = x2.bv ∧ x2.bn = x2.bn) ∧ 
 ((512 : Nat) = (512 : Nat) ∧ x2.arr = x2.arr) ∧ 
 (x.sb = x.sb) ∧ 
 (x.vs = x.vs ∧ ints (nats (ints x.bs)) = ints (nats (ints (nats (ints x.bs))))) ∧ 
 ((↑((x3 + (7 : Nat)) / (8 : Nat)) : Int) = (↑(Int.toNat (↑((x3 + (7 : Nat)) / (8 : Nat)) : Int)) : Int)) ∧ 
 ((-1 : Int) = (-1 : Int)) ∧ 
 ∀ x7 : (Value × Nat), ((x7.2 = x2.bn - (Int.toNat (↑((x3 + (7 : Nat)) / (8 : Nat)) : Int) - Int.toNat (↑(Int.toNat (x2.pos : Int)) : Int)) ∧ vw x.bb x2.arr (nats (ints (nats (ints x.bs)))) x7.1 x7.2 (Int.toNat (↑((x3 + (7 : Nat)) / (8 : Nat)) : Int))) → 
 (x6 = x6) ∧ 
 Br (decide (IntKind.wrap IntKind.i64 (Int.tdiv (IntKind.wrap IntKind.u64 ((↑nb : Int) + bitI BinOp.and IntKind.u64 (IntKind.wrap IntKind.u64 ((0 : Int) - (↑nb : Int))) (7 : Int))) (8 : Int)) < (x7.2 : Int)))
 ((x.rb = x.rb) ∧ 
 ∀ x8 : (Nat → Option Obj), (rbOK (RB.mk x8 x.rel x.bb x.sb (Int.toNat (↑(Int.toNat (↑((x3 + (7 : Nat)) / (8 : Nat)) : Int)) : Int)) x7.1 x7.2 x2.arr x.vs (nats (ints (nats (ints (nats (ints x.bs)))))) (Int.toNat (↑(Int.toNat (↑((x3 + (7 : Nat)) / (8 : Nat)) : Int)) : Int)) (-1 : Int))) ∧ 
 (x.bb = x.bb ∧ Off.lit 0 = Off.lit 0) ∧ 
 (x8 = x8) ∧ 
 (relLe x.rel x.rel) ∧ 
 (x.bb = x.bb) ∧ 
 (x.sb = x.sb ∧ Off.lit 0 = Off.lit 0) ∧ 
 ((↑(Int.toNat (↑((x3 + (7 : Nat)) / (8 : Nat)) : Int)) : Int) = (↑(Int.toNat (↑(Int.toNat (↑((x3 + (7 : Nat)) / (8 : Nat)) : Int)) : Int)) : Int)) ∧ 
 (x7.1 = x7.1 ∧ x7.2 = x7.2) ∧ 
 ((512 : Nat) = (512 : Nat) ∧ x2.arr = x2.arr) ∧ 
 (x.sb = x.sb) ∧ 
 (x.vs = x.vs ∧ ints (nats (ints (nats (ints x.bs)))) = ints (nats (ints (nats (ints (nats (ints x.bs))))))) ∧ 
 ((↑(Int.toNat (↑((x3 + (7 : Nat)) / (8 : Nat)) : Int)) : Int) = (↑(Int.toNat (↑(Int.toNat (↑((x3 + (7 : Nat)) / (8 : Nat)) : Int)) : Int)) : Int)) ∧ 
 ((-1 : Int) = (-1 : Int)) ∧ 
 ∀ x9 : (Value × Nat), ((x9.2 = x7.2 - (Int.toNat (↑(Int.toNat (↑((x3 + (7 : Nat)) / (8 : Nat)) : Int)) : Int) - Int.toNat (↑(Int.toNat (↑((x3 + (7 : Nat)) / (8 : Nat)) : Int)) : Int)) ∧ vw x.bb x2.arr (nats (ints (nats (ints (nats (ints x.bs)))))) x9.1 x9.2 (Int.toNat (↑(Int.toNat (↑((x3 + (7 : Nat)) / (8 : Nat)) : Int)) : Int))) → 
 (x8 = x8) ∧ 
 ∃ x10 : (RV × Nat), (flOK x x10.1 ∧ x10.1.num = Int.toNat (↑(Int.toNat (x2.num : Int)) : Int) ∧ (nb + (7 : Nat)) / (8 : Nat) ≤ x10.2 ∧ x10.1.bn ≤ x10.2 ∧ x10.2 ≤ (512 : Nat)) ∧ 
 (Value.nilIface = Value.nilIface) ∧ ((x9.2 : Int) = (x10.2 : Int)) ∧ 
 (x.m = x.m) ∧ (relLe x.rel x.rel) ∧ 
 (x.rb = x.rb) ∧ 
 ((↑((x3 + (7 : Nat)) / (8 : Nat)) : Int) = (x10.1.off : Int)) ∧ 
 (x.sb = x.sb ∧ Off.lit 0 = Off.lit 0) ∧ 
 (Value.nilIface = Value.nilIface) ∧ (x.bb = x.bb ∧ Off.lit 0 = Off.lit 0) ∧ 
 ((↑(Int.toNat (x2.bits : Int)) : Int) = (x10.1.bits : Int)) ∧ 
 ((↑(Int.toNat (x2.num : Int)) : Int) = (x10.1.num : Int)) ∧ 
 (x.big = x.big) ∧ 
 (Value.slice none 0 0 = x10.1.pk ∧ (0 : Nat) = x10.1.pkn) ∧ 
 ((x3 : Int) - (8 : Int) * (↑((x3 + (7 : Nat)) / (8 : Nat)) : Int) = x10.1.dis) ∧ 
 ((↑(Int.toNat (x2.num : Int)) : Int) = (x10.1.fed : Int)) ∧ 
 (Value.pointer none = Value.pointer none) ∧ (x.bb = x.bb ∧ Off.lit 0 = Off.lit 0) ∧ 
 (Value.pointer none = Value.pointer none) ∧ (x.sb = x.sb) ∧ 
 (x.vs = x.vs ∧ ints (nats (ints (nats (ints (nats (ints x.bs)))))) = ints x.bs) ∧ 
 ((↑(Int.toNat (↑(Int.toNat (↑((x3 + (7 : Nat)) / (8 : Nat)) : Int)) : Int)) : Int) = (x10.1.off : Int)) ∧ 
 ((-1 : Int) = x10.1.prev) ∧ 
 (x.bb = x.bb) ∧ 
 (x.sb = x.sb ∧ Off.lit 0 = Off.lit 0) ∧ 
 ((↑(Int.toNat (↑(Int.toNat (↑((x3 + (7 : Nat)) / (8 : Nat)) : Int)) : Int)) : Int) = (x10.1.pos : Int)) ∧ 
 (x9.1 = x10.1.bv ∧ x9.2 = x10.1.bn) ∧ 
 ((512 : Nat) = (512 : Nat) ∧ x2.arr = x10.1.arr) ∧ 
 (True)))
 (∃ x8 : (RV × Nat), (flOK x x8.1 ∧ x8.1.num = Int.toNat (↑(Int.toNat (x2.num : Int)) : Int) ∧ (nb + (7 : Nat)) / (8 : Nat) ≤ x8.2 ∧ x8.1.bn ≤ x8.2 ∧ x8.2 ≤ (512 : Nat)) ∧ 
 (Value.nilIface = Value.nilIface) ∧ (IntKind.wrap IntKind.i64 (Int.tdiv (IntKind.wrap IntKind.u64 ((↑nb : Int) + bitI BinOp.and IntKind.u64 (IntKind.wrap IntKind.u64 ((0 : Int) - (↑nb : Int))) (7 : Int))) (8 : Int)) = (x8.2 : Int)) ∧ 
 (x.m = x.m) ∧ (relLe x.rel x.rel) ∧ 
 (x.rb = x.rb) ∧ 
 ((↑((x3 + (7 : Nat)) / (8 : Nat)) : Int) = (x8.1.off : Int)) ∧ 
 (x.sb = x.sb ∧ Off.lit 0 = Off.lit 0) ∧ 
 (Value.nilIface = Value.nilIface) ∧ (x.bb = x.bb ∧ Off.lit 0 = Off.lit 0) ∧ 
 ((↑(Int.toNat (x2.bits : Int)) : Int) = (x8.1.bits : Int)) ∧ 
 ((↑(Int.toNat (x2.num : Int)) : Int) = (x8.1.num : Int)) ∧ 
 (x.big = x.big) ∧ 
 (Value.slice none 0 0 = x8.1.pk ∧ (0 : Nat) = x8.1.pkn) ∧ 
 ((x3 : Int) - (8 : Int) * (↑((x3 + (7 : Nat)) / (8 : Nat)) : Int) = x8.1.dis) ∧ 
 ((↑(Int.toNat (x2.num : Int)) : Int) = (x8.1.fed : Int)) ∧ 
 (Value.pointer none = Value.pointer none) ∧ (x.bb = x.bb ∧ Off.lit 0 = Off.lit 0) ∧ 
 (Value.pointer none = Value.pointer none) ∧ (x.sb = x.sb) ∧ 
 (x.vs = x.vs ∧ ints (nats (ints (nats (ints x.bs)))) = ints x.bs) ∧ 
 ((↑(Int.toNat (↑((x3 + (7 : Nat)) / (8 : Nat)) : Int)) : Int) = (x8.1.off : Int)) ∧ 
 ((-1 : Int) = x8.1.prev) ∧ 
 (x.bb = x.bb) ∧ 
 (x.sb = x.sb ∧ Off.lit 0 = Off.lit 0) ∧ 
 ((↑(Int.toNat (↑((x3 + (7 : Nat)) / (8 : Nat)) : Int)) : Int) = (x8.1.pos : Int)) ∧ 
 (x7.1 = x8.1.bv ∧ x7.2 = x8.1.bn) ∧ 
 ((512 : Nat) = (512 : Nat) ∧ x2.arr = x8.1.arr) ∧ 
 (True)))) ∧
 (∀ x6 : (RV × Nat), ((flOK x x6.1 ∧ x6.1.num = Int.toNat (↑(Int.toNat (x2.num : Int)) : Int) ∧ (nb + (7 : Nat)) / (8 : Nat) ≤ x6.2 ∧ x6.1.bn ≤ x6.2 ∧ x6.2 ≤ (512 : Nat)) → 
 (x.rb = x.rb) ∧ 
 ∀ x7 : (Nat → Option Obj), (rbOK (RB.mk x7 x.rel x.bb x.sb (Int.toNat (x6.1.pos : Int)) x6.1.bv x6.1.bn x6.1.arr x.vs (nats (ints x.bs)) (Int.toNat (x6.1.off : Int)) x6.1.prev) ∧ Int.toNat (x6.2 : Int) ≤ (512 : Nat)) ∧ 
 (x.bb = x.bb ∧ Off.lit 0 = Off.lit 0) ∧ 
 ((x6.2 : Int) = (↑(Int.toNat (x6.2 : Int)) : Int)) ∧ 
 (x7 = x7) ∧ 
 (relLe x.rel x.rel) ∧ 
 (x.bb = x.bb) ∧ 
 (x.sb = x.sb ∧ Off.lit 0 = Off.lit 0) ∧ 
 ((x6.1.pos : Int) = (↑(Int.toNat (x6.1.pos : Int)) : Int)) ∧ 
 (x6.1.bv = x6.1.bv ∧ x6.1.bn = x6.1.bn) ∧ 
 ((512 : Nat) = (512 : Nat) ∧ x6.1.arr = x6.1.arr) ∧ 
 (x.sb = x.sb) ∧ 
 (x.vs = x.vs ∧ ints x.bs = ints (nats (ints x.bs))) ∧ 
 ((x6.1.off : Int) = (↑(Int.toNat (x6.1.off : Int)) : Int)) ∧ 
 (x6.1.prev = x6.1.prev) ∧ 
 (∀ x8 : (Y214), ((Int.toNat (x6.2 : Int) ≤ List.length (nats (ints x.bs)) - Int.toNat (x6.1.off : Int) ∧ pk214 (RB.mk x7 x.rel x.bb x.sb (Int.toNat (x6.1.pos : Int)) x6.1.bv x6.1.bn x6.1.arr x.vs (nats (ints x.bs)) (Int.toNat (x6.1.off : Int)) x6.1.prev) (Int.toNat (x6.2 : Int)) (Int.toNat (x6.2 : Int)) x8) → 
 (x7 = x7) ∧ 
 (x.rb = x.rb) ∧ 
 (x.rb = x.rb) ∧ 
 (x.rb = x.rb) ∧ 
 ((8 : Int) ≠ (0 : Int)) ∧ 
 (inI64 (IntKind.wrap IntKind.u64 (Int.tdiv (x6.1.num : Int) (8 : Int)))) ∧ 
 ((0 : Int) ≤ IntKind.wrap IntKind.u64 (Int.tdiv (x6.1.num : Int) (8 : Int)) ∧ IntKind.wrap IntKind.u64 (Int.tdiv (x6.1.num : Int) (8 : Int)) ≤ (↑(Int.toNat (x6.2 : Int)) : Int) ∧ (↑(Int.toNat (x6.2 : Int)) : Int) ≤ (↑(capVal (Y214.pv x8)) : Int)) ∧ 
 (x.rb = x.rb) ∧ 
 (x.rb = x.rb) ∧ 
 Br ((↑(Int.toNat (↑(Int.toNat (x6.2 : Int)) : Int) - Int.toNat (IntKind.wrap IntKind.u64 (Int.tdiv (x6.1.num : Int) (8 : Int)))) : Int) == (0 : Int))
 ((x.rb = x.rb) ∧ 
 Br (decide ((x6.1.num : Int) ≥ (↑nb : Int)))
 (∃ x9 : (RV), (plOK x x9 ∧ nb ≤ x9.num) ∧ 
 (x.m = x.m) ∧ (relLe x.rel x.rel) ∧ 
 (x.rb = x.rb) ∧ 
 ((x6.1.off : Int) = (x9.off : Int)) ∧ 
 (x.sb = x.sb ∧ Off.lit 0 = Off.lit 0) ∧ 
 (Value.nilIface = Value.nilIface) ∧ (x.bb = x.bb ∧ Off.lit 0 = Off.lit 0) ∧ 
 ((x6.1.bits : Int) = (x9.bits : Int)) ∧ 
 ((x6.1.num : Int) = (x9.num : Int)) ∧ 
 (x.big = x.big) ∧ 
 (sliceVal (Y214.pv x8) (Int.toNat (IntKind.wrap IntKind.u64 (Int.tdiv (x6.1.num : Int) (8 : Int)))) (Int.toNat (↑(Int.toNat (x6.2 : Int)) : Int)) 1 = x9.pk ∧ Int.toNat (↑(Int.toNat (x6.2 : Int)) : Int) - Int.toNat (IntKind.wrap IntKind.u64 (Int.tdiv (x6.1.num : Int) (8 : Int))) = x9.pkn) ∧ 
 (x6.1.dis = x9.dis) ∧ 
 ((x6.1.fed : Int) = (x9.fed : Int)) ∧ 
 (Value.pointer none = Value.pointer none) ∧ (x.bb = x.bb ∧ Off.lit 0 = Off.lit 0) ∧ 
 (Value.pointer none = Value.pointer none) ∧ (x.sb = x.sb) ∧ 
 (x.vs = x.vs ∧ ints (nats (ints x.bs)) = ints x.bs) ∧ 
 ((↑(Int.toNat (x6.1.off : Int)) : Int) = (x9.off : Int)) ∧ 
 ((-1 : Int) = x9.prev) ∧ 
 (x.bb = x.bb) ∧ 
 (x.sb = x.sb ∧ Off.lit 0 = Off.lit 0) ∧ 
 ((↑(Int.toNat (x6.1.off : Int)) : Int) = (x9.pos : Int)) ∧ 
 (Y214.bv x8 = x9.bv ∧ Y214.bn x8 = x9.bn) ∧ 
 ((512 : Nat) = (512 : Nat) ∧ Y214.arr x8 = x9.arr) ∧ 
 (True))
 (((∃ x9 : (RV), (pulled x nb x9) ∧ 
 (Value.nilIface = Value.nilIface) ∧ (x.m = x.m) ∧ 
 (relLe x.rel x.rel) ∧ 
 (x.rb = x.rb) ∧ 
 ((x6.1.off : Int) = (x9.off : Int)) ∧ 
 (x.sb = x.sb ∧ Off.lit 0 = Off.lit 0) ∧ 
 (Value.nilIface = Value.nilIface) ∧ (x.bb = x.bb ∧ Off.lit 0 = Off.lit 0) ∧ 
 ((x6.1.bits : Int) = (x9.bits : Int)) ∧ 
 ((x6.1.num : Int) = (x9.num : Int)) ∧ 
 (x.big = x.big) ∧ 
 (sliceVal (Y214.pv x8) (Int.toNat (IntKind.wrap IntKind.u64 (Int.tdiv (x6.1.num : Int) (8 : Int)))) (Int.toNat (↑(Int.toNat (x6.2 : Int)) : Int)) 1 = x9.pk ∧ Int.toNat (↑(Int.toNat (x6.2 : Int)) : Int) - Int.toNat (IntKind.wrap IntKind.u64 (Int.tdiv (x6.1.num : Int) (8 : Int))) = x9.pkn) ∧ 
 (x6.1.dis = x9.dis) ∧ 
 ((x6.1.fed : Int) = (x9.fed : Int)) ∧ 
 (Value.pointer none = Value.pointer none) ∧ (x.bb = x.bb ∧ Off.lit 0 = Off.lit 0) ∧ 
 (Value.pointer none = Value.pointer none) ∧ (x.sb = x.sb) ∧ 
 (x.vs = x.vs ∧ ints (nats (ints x.bs)) = ints x.bs) ∧ 
 ((↑(Int.toNat (x6.1.off : Int)) : Int) = (x9.off : Int)) ∧ 
 ((-1 : Int) = x9.prev) ∧ 
 (x.bb = x.bb) ∧ 
 (x.sb = x.sb ∧ Off.lit 0 = Off.lit 0) ∧ 
 ((↑(Int.toNat (x6.1.off : Int)) : Int) = (x9.pos : Int)) ∧ 
 (Y214.bv x8 = x9.bv ∧ Y214.bn x8 = x9.bn) ∧ 
 ((512 : Nat) = (512 : Nat) ∧ Y214.arr x8 = x9.arr) ∧ 
 (True)) ∨
 (∃ x9 : (RV), (dry x nb x9) ∧ 
 (Value.nilIface = errV (Gl.U G)) ∧ 
 (x.m = x.m) ∧ 
 (relLe x.rel x.rel) ∧ 
 (x.rb = x.rb) ∧ 
 ((x6.1.off : Int) = (x9.off : Int)) ∧ 
 (x.sb = x.sb ∧ Off.lit 0 = Off.lit 0) ∧ 
 (Value.nilIface = Value.nilIface) ∧ (x.bb = x.bb ∧ Off.lit 0 = Off.lit 0) ∧ 
 ((x6.1.bits : Int) = (x9.bits : Int)) ∧ 
 ((x6.1.num : Int) = (x9.num : Int)) ∧ 
 (x.big = x.big) ∧ 
 (sliceVal (Y214.pv x8) (Int.toNat (IntKind.wrap IntKind.u64 (Int.tdiv (x6.1.num : Int) (8 : Int)))) (Int.toNat (↑(Int.toNat (x6.2 : Int)) : Int)) 1 = x9.pk ∧ Int.toNat (↑(Int.toNat (x6.2 : Int)) : Int) - Int.toNat (IntKind.wrap IntKind.u64 (Int.tdiv (x6.1.num : Int) (8 : Int))) = x9.pkn) ∧ 
 (x6.1.dis = x9.dis) ∧ 
 ((x6.1.fed : Int) = (x9.fed : Int)) ∧ 
 (Value.pointer none = Value.pointer none) ∧ (x.bb = x.bb ∧ Off.lit 0 = Off.lit 0) ∧ 
 (Value.pointer none = Value.pointer none) ∧ (x.sb = x.sb) ∧ 
 (x.vs = x.vs ∧ ints (nats (ints x.bs)) = ints x.bs) ∧ 
 ((↑(Int.toNat (x6.1.off : Int)) : Int) = (x9.off : Int)) ∧ 
 ((-1 : Int) = x9.prev) ∧ 
 (x.bb = x.bb) ∧ 
 (x.sb = x.sb ∧ Off.lit 0 = Off.lit 0) ∧ 
 ((↑(Int.toNat (x6.1.off : Int)) : Int) = (x9.pos : Int)) ∧ 
 (Y214.bv x8 = x9.bv ∧ Y214.bn x8 = x9.bn) ∧ 
 ((512 : Nat) = (512 : Nat) ∧ Y214.arr x8 = x9.arr) ∧ 
 (True)))))
 (∃ x9 : (RV), (plOK x x9 ∧ (0 : Nat) < x9.pkn ∧ x9.num = Int.toNat (x2.num : Int)) ∧ 
 (x.m = x.m) ∧ (relLe x.rel x.rel) ∧ 
 (x.rb = x.rb) ∧ 
 ((x6.1.off : Int) = (x9.off : Int)) ∧ 
 (x.sb = x.sb ∧ Off.lit 0 = Off.lit 0) ∧ 
 (Value.nilIface = Value.nilIface) ∧ (x.bb = x.bb ∧ Off.lit 0 = Off.lit 0) ∧ 
 ((x6.1.bits : Int) = (x9.bits : Int)) ∧ 
 ((x6.1.num : Int) = (x9.num : Int)) ∧ 
 (x.big = x.big) ∧ 
 (sliceVal (Y214.pv x8) (Int.toNat (IntKind.wrap IntKind.u64 (Int.tdiv (x6.1.num : Int) (8 : Int)))) (Int.toNat (↑(Int.toNat (x6.2 : Int)) : Int)) 1 = x9.pk ∧ Int.toNat (↑(Int.toNat (x6.2 : Int)) : Int) - Int.toNat (IntKind.wrap IntKind.u64 (Int.tdiv (x6.1.num : Int) (8 : Int))) = x9.pkn) ∧ 
 (x6.1.dis = x9.dis) ∧ 
 ((x6.1.fed : Int) = (x9.fed : Int)) ∧ 
 (Value.pointer none = Value.pointer none) ∧ (x.bb = x.bb ∧ Off.lit 0 = Off.lit 0) ∧ 
 (Value.pointer none = Value.pointer none) ∧ (x.sb = x.sb) ∧ 
 (x.vs = x.vs ∧ ints (nats (ints x.bs)) = ints x.bs) ∧ 
 ((↑(Int.toNat (x6.1.off : Int)) : Int) = (x9.off : Int)) ∧ 
 ((-1 : Int) = x9.prev) ∧ 
 (x.bb = x.bb) ∧ 
 (x.sb = x.sb ∧ Off.lit 0 = Off.lit 0) ∧ 
 ((↑(Int.toNat (x6.1.off : Int)) : Int) = (x9.pos : Int)) ∧ 
 (Y214.bv x8 = x9.bv ∧ Y214.bn x8 = x9.bn) ∧ 
 ((512 : Nat) = (512 : Nat) ∧ Y214.arr x8 = x9.arr) ∧ 
 (True)))) ∧
 (∀ x8 : (Y214), ((List.length (nats (ints x.bs)) - Int.toNat (x6.1.off : Int) < Int.toNat (x6.2 : Int) ∧ pk214 (RB.mk x7 x.rel x.bb x.sb (Int.toNat (x6.1.pos : Int)) x6.1.bv x6.1.bn x6.1.arr x.vs (nats (ints x.bs)) (Int.toNat (x6.1.off : Int)) x6.1.prev) (Int.toNat (x6.2 : Int)) (List.length (nats (ints x.bs)) - Int.toNat (x6.1.off : Int)) x8) → 
 (x7 = x7) ∧ 
 (x.rb = x.rb) ∧ 
 (x.rb = x.rb) ∧ 
 (x.rb = x.rb) ∧ 
 ((8 : Int) ≠ (0 : Int)) ∧ 
 (inI64 (IntKind.wrap IntKind.u64 (Int.tdiv (x6.1.num : Int) (8 : Int)))) ∧ 
 ((0 : Int) ≤ IntKind.wrap IntKind.u64 (Int.tdiv (x6.1.num : Int) (8 : Int)) ∧ IntKind.wrap IntKind.u64 (Int.tdiv (x6.1.num : Int) (8 : Int)) ≤ (↑(List.length (nats (ints x.bs)) - Int.toNat (x6.1.off : Int)) : Int) ∧ (↑(List.length (nats (ints x.bs)) - Int.toNat (x6.1.off : Int)) : Int) ≤ (↑(capVal (Y214.pv x8)) : Int)) ∧ 
 (x.rb = x.rb) ∧ 
 (x.rb = x.rb) ∧ 
 Br ((↑(Int.toNat (↑(List.length (nats (ints x.bs)) - Int.toNat (x6.1.off : Int)) : Int) - Int.toNat (IntKind.wrap IntKind.u64 (Int.tdiv (x6.1.num : Int) (8 : Int)))) : Int) == (0 : Int))
 ((x.rb = x.rb) ∧ 
 Br (decide ((x6.1.num : Int) ≥ (↑nb : Int)))
 (∃ x9 : (RV), (plOK x x9 ∧ nb ≤ x9.num) ∧ 
 (x.m = x.m) ∧ (relLe x.rel x.rel) ∧ 
 (x.rb = x.rb) ∧ 
 ((x6.1.off : Int) = (x9.off : Int)) ∧ 
 (x.sb = x.sb ∧ Off.lit 0 = Off.lit 0) ∧ 
 (Value.nilIface = Value.nilIface) ∧ (x.bb = x.bb ∧ Off.lit 0 = Off.lit 0) ∧ 
 ((x6.1.bits : Int) = (x9.bits : Int)) ∧ 
 ((x6.1.num : Int) = (x9.num : Int)) ∧ 
 (x.big = x.big) ∧ 
 (sliceVal (Y214.pv x8) (Int.toNat (IntKind.wrap IntKind.u64 (Int.tdiv (x6.1.num : Int) (8 : Int)))) (Int.toNat (↑(List.length (nats (ints x.bs)) - Int.toNat (x6.1.off : Int)) : Int)) 1 = x9.pk ∧ Int.toNat (↑(List.length (nats (ints x.bs)) - Int.toNat (x6.1.off : Int)) : Int) - Int.toNat (IntKind.wrap IntKind.u64 (Int.tdiv (x6.1.num : Int) (8 : Int))) = x9.pkn) ∧ 
 (x6.1.dis = x9.dis) ∧ 
 ((x6.1.fed : Int) = (x9.fed : Int)) ∧ 
 (Value.pointer none = Value.pointer none) ∧ (x.bb = x.bb ∧ Off.lit 0 = Off.lit 0) ∧ 
 (Value.pointer none = Value.pointer none) ∧ (x.sb = x.sb) ∧ 
 (x.vs = x.vs ∧ ints (nats (ints x.bs)) = ints x.bs) ∧ 
 ((↑(Int.toNat (x6.1.off : Int)) : Int) = (x9.off : Int)) ∧ 
 ((-1 : Int) = x9.prev) ∧ 
 (x.bb = x.bb) ∧ 
 (x.sb = x.sb ∧ Off.lit 0 = Off.lit 0) ∧ 
 ((↑(Int.toNat (x6.1.off : Int)) : Int) = (x9.pos : Int)) ∧ 
 (Y214.bv x8 = x9.bv ∧ Y214.bn x8 = x9.bn) ∧ 
 ((512 : Nat) = (512 : Nat) ∧ Y214.arr x8 = x9.arr) ∧ 
 (True))
 ((Gl.E G = Gl.E G) ∧ ((∃ x9 : (RV), (pulled x nb x9) ∧ 
 (errV (Gl.U G) = Value.nilIface) ∧ 
 (x.m = x.m) ∧ 
 (relLe x.rel x.rel) ∧ 
 (x.rb = x.rb) ∧ 
 ((x6.1.off : Int) = (x9.off : Int)) ∧ 
 (x.sb = x.sb ∧ Off.lit 0 = Off.lit 0) ∧ 
 (Value.nilIface = Value.nilIface) ∧ (x.bb = x.bb ∧ Off.lit 0 = Off.lit 0) ∧ 
 ((x6.1.bits : Int) = (x9.bits : Int)) ∧ 
 ((x6.1.num : Int) = (x9.num : Int)) ∧ 
 (x.big = x.big) ∧ 
 (sliceVal (Y214.pv x8) (Int.toNat (IntKind.wrap IntKind.u64 (Int.tdiv (x6.1.num : Int) (8 : Int)))) (Int.toNat (↑(List.length (nats (ints x.bs)) - Int.toNat (x6.1.off : Int)) : Int)) 1 = x9.pk ∧ Int.toNat (↑(List.length (nats (ints x.bs)) - Int.toNat (x6.1.off : Int)) : Int) - Int.toNat (IntKind.wrap IntKind.u64 (Int.tdiv (x6.1.num : Int) (8 : Int))) = x9.pkn) ∧ 
 (x6.1.dis = x9.dis) ∧ 
 ((x6.1.fed : Int) = (x9.fed : Int)) ∧ 
 (Value.pointer none = Value.pointer none) ∧ (x.bb = x.bb ∧ Off.lit 0 = Off.lit 0) ∧ 
 (Value.pointer none = Value.pointer none) ∧ (x.sb = x.sb) ∧ 
 (x.vs = x.vs ∧ ints (nats (ints x.bs)) = ints x.bs) ∧ 
 ((↑(Int.toNat (x6.1.off : Int)) : Int) = (x9.off : Int)) ∧ 
 ((-1 : Int) = x9.prev) ∧ 
 (x.bb = x.bb) ∧ 
 (x.sb = x.sb ∧ Off.lit 0 = Off.lit 0) ∧ 
 ((↑(Int.toNat (x6.1.off : Int)) : Int) = (x9.pos : Int)) ∧ 
 (Y214.bv x8 = x9.bv ∧ Y214.bn x8 = x9.bn) ∧ 
 ((512 : Nat) = (512 : Nat) ∧ Y214.arr x8 = x9.arr) ∧ 
 (True)) ∨
 (∃ x9 : (RV), (dry x nb x9) ∧ 
 (errV (Gl.U G) = errV (Gl.U G)) ∧ (x.m = x.m) ∧ 
 (relLe x.rel x.rel) ∧ 
 (x.rb = x.rb) ∧ 
 ((x6.1.off : Int) = (x9.off : Int)) ∧ 
 (x.sb = x.sb ∧ Off.lit 0 = Off.lit 0) ∧ 
 (Value.nilIface = Value.nilIface) ∧ (x.bb = x.bb ∧ Off.lit 0 = Off.lit 0) ∧ 
 ((x6.1.bits : Int) = (x9.bits : Int)) ∧ 
 ((x6.1.num : Int) = (x9.num : Int)) ∧ 
 (x.big = x.big) ∧ 
 (sliceVal (Y214.pv x8) (Int.toNat (IntKind.wrap IntKind.u64 (Int.tdiv (x6.1.num : Int) (8 : Int)))) (Int.toNat (↑(List.length (nats (ints x.bs)) - Int.toNat (x6.1.off : Int)) : Int)) 1 = x9.pk ∧ Int.toNat (↑(List.length (nats (ints x.bs)) - Int.toNat (x6.1.off : Int)) : Int) - Int.toNat (IntKind.wrap IntKind.u64 (Int.tdiv (x6.1.num : Int) (8 : Int))) = x9.pkn) ∧ 
 (x6.1.dis = x9.dis) ∧ 
 ((x6.1.fed : Int) = (x9.fed : Int)) ∧ 
 (Value.pointer none = Value.pointer none) ∧ (x.bb = x.bb ∧ Off.lit 0 = Off.lit 0) ∧ 
 (Value.pointer none = Value.pointer none) ∧ (x.sb = x.sb) ∧ 
 (x.vs = x.vs ∧ ints (nats (ints x.bs)) = ints x.bs) ∧ 
 ((↑(Int.toNat (x6.1.off : Int)) : Int) = (x9.off : Int)) ∧ 
 ((-1 : Int) = x9.prev) ∧ 
 (x.bb = x.bb) ∧ 
 (x.sb = x.sb ∧ Off.lit 0 = Off.lit 0) ∧ 
 ((↑(Int.toNat (x6.1.off : Int)) : Int) = (x9.pos : Int)) ∧ 
 (Y214.bv x8 = x9.bv ∧ Y214.bn x8 = x9.bn) ∧ 
 ((512 : Nat) = (512 : Nat) ∧ Y214.arr x8 = x9.arr) ∧ 
 (True)))))
 (∃ x9 : (RV), (plOK x x9 ∧ (0 : Nat) < x9.pkn ∧ x9.num = Int.toNat (x2.num : Int)) ∧ 
 (x.m = x.m) ∧ (relLe x.rel x.rel) ∧ 
 (x.rb = x.rb) ∧ 
 ((x6.1.off : Int) = (x9.off : Int)) ∧ 
 (x.sb = x.sb ∧ Off.lit 0 = Off.lit 0) ∧ 
 (Value.nilIface = Value.nilIface) ∧ (x.bb = x.bb ∧ Off.lit 0 = Off.lit 0) ∧ 
 ((x6.1.bits : Int) = (x9.bits : Int)) ∧ 
 ((x6.1.num : Int) = (x9.num : Int)) ∧ 
 (x.big = x.big) ∧ 
 (sliceVal (Y214.pv x8) (Int.toNat (IntKind.wrap IntKind.u64 (Int.tdiv (x6.1.num : Int) (8 : Int)))) (Int.toNat (↑(List.length (nats (ints x.bs)) - Int.toNat (x6.1.off : Int)) : Int)) 1 = x9.pk ∧ Int.toNat (↑(List.length (nats (ints x.bs)) - Int.toNat (x6.1.off : Int)) : Int) - Int.toNat (IntKind.wrap IntKind.u64 (Int.tdiv (x6.1.num : Int) (8 : Int))) = x9.pkn) ∧ 
 (x6.1.dis = x9.dis) ∧ 
 ((x6.1.fed : Int) = (x9.fed : Int)) ∧ 
 (Value.pointer none = Value.pointer none) ∧ (x.bb = x.bb ∧ Off.lit 0 = Off.lit 0) ∧ 
 (Value.pointer none = Value.pointer none) ∧ (x.sb = x.sb) ∧ 
 (x.vs = x.vs ∧ ints (nats (ints x.bs)) = ints x.bs) ∧ 
 ((↑(Int.toNat (x6.1.off : Int)) : Int) = (x9.off : Int)) ∧ 
 ((-1 : Int) = x9.prev) ∧ 
 (x.bb = x.bb) ∧ 
 (x.sb = x.sb ∧ Off.lit 0 = Off.lit 0) ∧ 
 ((↑(Int.toNat (x6.1.off : Int)) : Int) = (x9.pos : Int)) ∧ 
 (Y214.bv x8 = x9.bv ∧ Y214.bn x8 = x9.bn) ∧ 
 ((512 : Nat) = (512 : Nat) ∧ Y214.arr x8 = x9.arr) ∧ 
 (True))))))))
 (∃ x3 : (RV), (plOK x x3 ∧ (0 : Nat) < x3.pkn ∧ x3.num = Int.toNat (x2.num : Int)) ∧ 
 (x.m = x.m) ∧ (relLe x.rel x.rel) ∧ 
 (x.rb = x.rb) ∧ 
 ((x2.off : Int) = (x3.off : Int)) ∧ 
 (x.sb = x.sb ∧ Off.lit 0 = Off.lit 0) ∧ 
 (Value.nilIface = Value.nilIface) ∧ (x.bb = x.bb ∧ Off.lit 0 = Off.lit 0) ∧ 
 ((x2.bits : Int) = (x3.bits : Int)) ∧ 
 ((x2.num : Int) = (x3.num : Int)) ∧ 
 (x.big = x.big) ∧ 
 (x2.pk = x3.pk ∧ x2.pkn = x3.pkn) ∧ 
 (x2.dis = x3.dis) ∧ 
 ((x2.fed : Int) = (x3.fed : Int)) ∧ 
 (Value.pointer none = Value.pointer none) ∧ (x.bb = x.bb ∧ Off.lit 0 = Off.lit 0) ∧ 
 (Value.pointer none = Value.pointer none) ∧ (x.sb = x.sb) ∧ 
 (x.vs = x.vs ∧ ints x.bs = ints x.bs) ∧ 
 ((x2.off : Int) = (x3.off : Int)) ∧ 
 (x2.prev = x3.prev) ∧ 
 (x.bb = x.bb) ∧ 
 (x.sb = x.sb ∧ Off.lit 0 = Off.lit 0) ∧ 
 ((x2.pos : Int) = (x3.pos : Int)) ∧ 
 (x2.bv = x3.bv ∧ x2.bn = x3.bn) ∧ 
 ((512 : Nat) = (512 : Nat) ∧ x2.arr = x3.arr) ∧ 
 (True))) ∧
 (∀ x3 : (RV), ((plOK x x3 ∧ (0 : Nat) < x3.pkn ∧ x3.num = Int.toNat (x2.num : Int)) → 
 (x.rb = x.rb) ∧ 
 (inI64 (IntKind.wrap IntKind.u64 ((64 : Int) - (x3.num : Int)))) ∧ 
 ((8 : Int) ≠ (0 : Int)) ∧ 
 (x.rb = x.rb) ∧ 
 Br (decide ((x3.pkn : Int) ≥ (8 : Int)))
 (((x.rb = x.rb) ∧ 
 ∀ x4 : (Nat), ∃ x5 : (Nat × Nat), (x3.pk = Value.slice (some (Addr.mk x.bb ((3 : Nat) + x5.1 * (1 : Nat)) none)) x3.pkn x5.2) ∧ 
 (inRange (7 : Int) x3.pkn) ∧ 
 (x.bb = x.bb) ∧ (x5.1 + (7 : Nat) < List.length x3.arr) ∧ 
 ∀ x6 : (Int), ((x3.arr[x5.1 + (7 : Nat)]? = some x6) → 
 ∃ x7 : (Nat × Nat), (x3.pk = Value.slice (some (Addr.mk x.bb ((3 : Nat) + x7.1 * (1 : Nat)) none)) x3.pkn x7.2) ∧ 
 (inRange (0 : Int) x3.pkn) ∧ 
 (x.bb = x.bb) ∧ (x7.1 + (0 : Nat) < List.length x3.arr) ∧ 
 ∀ x8 : (Int), ((x3.arr[x7.1 + (0 : Nat)]? = some x8) → 
 ∃ x9 : (Nat × Nat), (x3.pk = Value.slice (some (Addr.mk x.bb ((3 : Nat) + x9.1 * (1 : Nat)) none)) x3.pkn x9.2) ∧ 
 (inRange (1 : Int) x3.pkn) ∧ 
 (x.bb = x.bb) ∧ (x9.1 + (1 : Nat) < List.length x3.arr) ∧ 
 ∀ x10 : (Int), ((x3.arr[x9.1 + (1 : Nat)]? = some x10) → 
 ((0 : Int) ≤ (8 : Int)) ∧ 
 ∃ x11 : (Nat × Nat), (x3.pk = Value.slice (some (Addr.mk x.bb ((3 : Nat) + x11.1 * (1 : Nat)) none)) x3.pkn x11.2) ∧ 
 (inRange (2 : Int) x3.pkn) ∧ 
 (x.bb = x.bb) ∧ (x11.1 + (2 : Nat) < List.length x3.arr) ∧ 
 ∀ x12 : (Int), ((x3.arr[x11.1 + (2 : Nat)]? = some x12) → 
 ((0 : Int) ≤ (16 : Int)) ∧ 
 ∃ x13 : (Nat × Nat), (x3.pk = Value.slice (some (Addr.mk x.bb ((3 : Nat) + x13.1 * (1 : Nat)) none)) x3.pkn x13.2) ∧ 
 (inRange (3 : Int) x3.pkn) ∧ 
 (x.bb = x.bb) ∧ (x13.1 + (3 : Nat) < List.length x3.arr) ∧ 
 ∀ x14 : (Int), ((x3.arr[x13.1 + (3 : Nat)]? = some x14) → 
 ((0 : Int) ≤ (24 : Int)) ∧ 
 ∃ x15 : (Nat × Nat), (x3.pk = Value.slice (some (Addr.mk x.bb ((3 : Nat) + x15.1 * (1 : Nat)) none)) x3.pkn x15.2) ∧ 
 (inRange (4 : Int) x3.pkn) ∧ 
 (x.bb = x.bb) ∧ (x15.1 + (4 : Nat) < List.length x3.arr) ∧ 
 ∀ x16 : (Int), ((x3.arr[x15.1 + (4 : Nat)]? = some x16) → 
 ((0 : Int) ≤ (32 : Int)) ∧ 
 ∃ x17 : (Nat × Nat), (x3.pk = Value.slice (some (Addr.mk x.bb ((3 : Nat) + x17.1 * (1 : Nat)) none)) x3.pkn x17.2) ∧ 
 (inRange (5 : Int) x3.pkn) ∧ 
 (x.bb = x.bb) ∧ (x17.1 + (5 : Nat) < List.length x3.arr) ∧ 
 ∀ x18 : (Int), ((x3.arr[x17.1 + (5 : Nat)]? = some x18) → 
 ((0 : Int) ≤ (40 : Int)) ∧ 
 ∃ x19 : (Nat × Nat), (x3.pk = Value.slice (some (Addr.mk x.bb ((3 : Nat) + x19.1 * (1 : Nat)) none)) x3.pkn x19.2) ∧ 
 (inRange (6 : Int) x3.pkn) ∧ 
 (x.bb = x.bb) ∧ (x19.1 + (6 : Nat) < List.length x3.arr) ∧ 
 ∀ x20 : (Int), ((x3.arr[x19.1 + (6 : Nat)]? = some x20) → 
 ((0 : Int) ≤ (48 : Int)) ∧ 
 ∃ x21 : (Nat × Nat), (x3.pk = Value.slice (some (Addr.mk x.bb ((3 : Nat) + x21.1 * (1 : Nat)) none)) x3.pkn x21.2) ∧ 
 (inRange (7 : Int) x3.pkn) ∧ 
 (x.bb = x.bb) ∧ (x21.1 + (7 : Nat) < List.length x3.arr) ∧ 
 ∀ x22 : (Int), ((x3.arr[x21.1 + (7 : Nat)]? = some x22) → 
 ((0 : Int) ≤ (56 : Int)) ∧ 
 ∃ x23 : (Unit), (True) ∧ 
 (bitI BinOp.or IntKind.u64 (bitI BinOp.or IntKind.u64 (bitI BinOp.or IntKind.u64 (bitI BinOp.or IntKind.u64 (bitI BinOp.or IntKind.u64 (bitI BinOp.or IntKind.u64 (bitI BinOp.or IntKind.u64 (IntKind.wrap IntKind.u64 x8) (shlI IntKind.u64 (IntKind.wrap IntKind.u64 x10) (8 : Int))) (shlI IntKind.u64 (IntKind.wrap IntKind.u64 x12) (16 : Int))) (shlI IntKind.u64 (IntKind.wrap IntKind.u64 x14) (24 : Int))) (shlI IntKind.u64 (IntKind.wrap IntKind.u64 x16) (32 : Int))) (shlI IntKind.u64 (IntKind.wrap IntKind.u64 x18) (40 : Int))) (shlI IntKind.u64 (IntKind.wrap IntKind.u64 x20) (48 : Int))) (shlI IntKind.u64 (IntKind.wrap IntKind.u64 x22) (56 : Int)) = (↑(wd8 false x.bs ((RS.P x + Int.toNat (x3.num : Int)) / (8 : Nat))) : Int)) ∧ 
 (x.m = x.m) ∧ (relLe x.rel x.rel) ∧ 
 (x.rb = x.rb) ∧ ((x3.off : Int) = (x3.off : Int)) ∧ (x.sb = x.sb ∧ Off.lit 0 = Off.lit 0) ∧ 
 (Value.nilIface = Value.nilIface) ∧ (x.bb = x.bb ∧ Off.lit 0 = Off.lit 0) ∧ 
 ((x3.bits : Int) = (x3.bits : Int)) ∧ ((x3.num : Int) = (x3.num : Int)) ∧ (x.big = x.big) ∧ (x3.pk = x3.pk ∧ x3.pkn = x3.pkn) ∧ 
 (x3.dis = x3.dis) ∧ ((x3.fed : Int) = (x3.fed : Int)) ∧ (Value.pointer none = Value.pointer none) ∧ (x.bb = x.bb ∧ Off.lit 0 = Off.lit 0) ∧ 
 (Value.pointer none = Value.pointer none) ∧ (x.sb = x.sb) ∧ (x.vs = x.vs ∧ ints x.bs = ints x.bs) ∧ 
 ((x3.off : Int) = (x3.off : Int)) ∧ (x3.prev = x3.prev) ∧ (x.bb = x.bb) ∧ (x.sb = x.sb ∧ Off.lit 0 = Off.lit 0) ∧ 
 ((x3.pos : Int) = (x3.pos : Int)) ∧ (x3.bv = x3.bv ∧ x3.bn = x3.bn) ∧ 
 ((512 : Nat) = (512 : Nat) ∧ x3.arr = x3.arr) ∧ 
 (True))))))))))) ∧
 (∀ x4 : (Unit), ((True) → 
 ((x.rb = x.rb) ∧ 
 Br x.big
 (((0 : Int) ≤ (1 : Int)) ∧ 
 ((0 : Int) ≤ (1 : Int)) ∧ 
 ((0 : Int) ≤ (2 : Int)) ∧ 
 ((0 : Int) ≤ (2 : Int)) ∧ 
 ((0 : Int) ≤ (4 : Int)) ∧ 
 ((0 : Int) ≤ (4 : Int)) ∧ 
 ∃ x5 : (Unit), (True) ∧ 
 (bitI BinOp.or IntKind.u64 (shrI IntKind.u64 (bitI BinOp.and IntKind.u64 (bitI BinOp.or IntKind.u64 (shrI IntKind.u64 (bitI BinOp.and IntKind.u64 (bitI BinOp.or IntKind.u64 (shrI IntKind.u64 (bitI BinOp.and IntKind.u64 (↑(wd8 false x.bs ((RS.P x + Int.toNat (x3.num : Int)) / (8 : Nat))) : Int) (12297829382473034410 : Int)) (1 : Int)) (shlI IntKind.u64 (bitI BinOp.and IntKind.u64 (↑(wd8 false x.bs ((RS.P x + Int.toNat (x3.num : Int)) / (8 : Nat))) : Int) (6148914691236517205 : Int)) (1 : Int))) (14757395258967641292 : Int)) (2 : Int)) (shlI IntKind.u64 (bitI BinOp.and IntKind.u64 (bitI BinOp.or IntKind.u64 (shrI IntKind.u64 (bitI BinOp.and IntKind.u64 (↑(wd8 false x.bs ((RS.P x + Int.toNat (x3.num : Int)) / (8 : Nat))) : Int) (12297829382473034410 : Int)) (1 : Int)) (shlI IntKind.u64 (bitI BinOp.and IntKind.u64 (↑(wd8 false x.bs ((RS.P x + Int.toNat (x3.num : Int)) / (8 : Nat))) : Int) (6148914691236517205 : Int)) (1 : Int))) (3689348814741910323 : Int)) (2 : Int))) (17361641481138401520 : Int)) (4 : Int)) (shlI IntKind.u64 (bitI BinOp.and IntKind.u64 (bitI BinOp.or IntKind.u64 (shrI IntKind.u64 (bitI BinOp.and IntKind.u64 (bitI BinOp.or IntKind.u64 (shrI IntKind.u64 (bitI BinOp.and IntKind.u64 (↑(wd8 false x.bs ((RS.P x + Int.toNat (x3.num : Int)) / (8 : Nat))) : Int) (12297829382473034410 : Int)) (1 : Int)) (shlI IntKind.u64 (bitI BinOp.and IntKind.u64 (↑(wd8 false x.bs ((RS.P x + Int.toNat (x3.num : Int)) / (8 : Nat))) : Int) (6148914691236517205 : Int)) (1 : Int))) (14757395258967641292 : Int)) (2 : Int)) (shlI IntKind.u64 (bitI BinOp.and IntKind.u64 (bitI BinOp.or IntKind.u64 (shrI IntKind.u64 (bitI BinOp.and IntKind.u64 (↑(wd8 false x.bs ((RS.P x + Int.toNat (x3.num : Int)) / (8 : Nat))) : Int) (12297829382473034410 : Int)) (1 : Int)) (shlI IntKind.u64 (bitI BinOp.and IntKind.u64 (↑(wd8 false x.bs ((RS.P x + Int.toNat (x3.num : Int)) / (8 : Nat))) : Int) (6148914691236517205 : Int)) (1 : Int))) (3689348814741910323 : Int)) (2 : Int))) (1085102592571150095 : Int)) (4 : Int)) = (↑(wd8 x.big x.bs ((RS.P x + Int.toNat (x3.num : Int)) / (8 : Nat))) : Int)) ∧ 
 (x.m = x.m) ∧ (relLe x.rel x.rel) ∧ 
 (x.rb = x.rb) ∧ ((x3.off : Int) = (x3.off : Int)) ∧ (x.sb = x.sb ∧ Off.lit 0 = Off.lit 0) ∧ 
 (Value.nilIface = Value.nilIface) ∧ (x.bb = x.bb ∧ Off.lit 0 = Off.lit 0) ∧ 
 ((x3.bits : Int) = (x3.bits : Int)) ∧ ((x3.num : Int) = (x3.num : Int)) ∧ (x.big = x.big) ∧ (x3.pk = x3.pk ∧ x3.pkn = x3.pkn) ∧ 
 (x3.dis = x3.dis) ∧ ((x3.fed : Int) = (x3.fed : Int)) ∧ (Value.pointer none = Value.pointer none) ∧ (x.bb = x.bb ∧ Off.lit 0 = Off.lit 0) ∧ 
 (Value.pointer none = Value.pointer none) ∧ (x.sb = x.sb) ∧ (x.vs = x.vs ∧ ints x.bs = ints x.bs) ∧ 
 ((x3.off : Int) = (x3.off : Int)) ∧ (x3.prev = x3.prev) ∧ (x.bb = x.bb) ∧ (x.sb = x.sb ∧ Off.lit 0 = Off.lit 0) ∧ 
 ((x3.pos : Int) = (x3.pos : Int)) ∧ (x3.bv = x3.bv ∧ x3.bn = x3.bn) ∧ 
 ((512 : Nat) = (512 : Nat) ∧ x3.arr = x3.arr) ∧ 
 (True))
 (∃ x5 : (Unit), (True) ∧ 
 ((↑(wd8 false x.bs ((RS.P x + Int.toNat (x3.num : Int)) / (8 : Nat))) : Int) = (↑(wd8 x.big x.bs ((RS.P x + Int.toNat (x3.num : Int)) / (8 : Nat))) : Int)) ∧ 
 (x.m = x.m) ∧ (relLe x.rel x.rel) ∧ 
 (x.rb = x.rb) ∧ ((x3.off : Int) = (x3.off : Int)) ∧ (x.sb = x.sb ∧ Off.lit 0 = Off.lit 0) ∧ 
 (Value.nilIface = Value.nilIface) ∧ (x.bb = x.bb ∧ Off.lit 0 = Off.lit 0) ∧ 
 ((x3.bits : Int) = (x3.bits : Int)) ∧ ((x3.num : Int) = (x3.num : Int)) ∧ (x.big = x.big) ∧ (x3.pk = x3.pk ∧ x3.pkn = x3.pkn) ∧ 
 (x3.dis = x3.dis) ∧ ((x3.fed : Int) = (x3.fed : Int)) ∧ (Value.pointer none = Value.pointer none) ∧ (x.bb = x.bb ∧ Off.lit 0 = Off.lit 0) ∧ 
 (Value.pointer none = Value.pointer none) ∧ (x.sb = x.sb) ∧ (x.vs = x.vs ∧ ints x.bs = ints x.bs) ∧ 
 ((x3.off : Int) = (x3.off : Int)) ∧ (x3.prev = x3.prev) ∧ (x.bb = x.bb) ∧ (x.sb = x.sb ∧ Off.lit 0 = Off.lit 0) ∧ 
 ((x3.pos : Int) = (x3.pos : Int)) ∧ (x3.bv = x3.bv ∧ x3.bn = x3.bn) ∧ 
 ((512 : Nat) = (512 : Nat) ∧ x3.arr = x3.arr) ∧ 
 (True))) ∧
 (∀ x5 : (Unit), ((True) → 
 (x.rb = x.rb) ∧ 
 (x.rb = x.rb) ∧ 
 ((0 : Int) ≤ (x3.num : Int)) ∧ 
 (x.rb = x.rb) ∧ 
 (x.rb = x.rb) ∧ 
 (inI64 (IntKind.wrap IntKind.i64 (Int.tdiv (IntKind.wrap IntKind.u64 ((64 : Int) - (x3.num : Int))) (8 : Int)) * (8 : Int))) ∧ 
 (x.rb = x.rb) ∧ 
 (x.rb = x.rb) ∧ 
 ((0 : Int) ≤ IntKind.wrap IntKind.i64 (Int.tdiv (IntKind.wrap IntKind.u64 ((64 : Int) - (x3.num : Int))) (8 : Int)) ∧ IntKind.wrap IntKind.i64 (Int.tdiv (IntKind.wrap IntKind.u64 ((64 : Int) - (x3.num : Int))) (8 : Int)) ≤ (x3.pkn : Int) ∧ (x3.pkn : Int) ≤ (↑(capVal x3.pk) : Int)) ∧ 
 (x.rb = x.rb) ∧ 
 ∃ x6 : (RV), (plOK x x6 ∧ nb ≤ x6.num) ∧ 
 (x.m = x.m) ∧ (relLe x.rel x.rel) ∧ 
 (x.rb = x.rb) ∧ 
 ((x3.off : Int) = (x6.off : Int)) ∧ 
 (x.sb = x.sb ∧ Off.lit 0 = Off.lit 0) ∧ 
 (Value.nilIface = Value.nilIface) ∧ (x.bb = x.bb ∧ Off.lit 0 = Off.lit 0) ∧ 
 (bitI BinOp.or IntKind.u64 (x3.bits : Int) (shlI IntKind.u64 (↑(wd8 x.big x.bs ((RS.P x + Int.toNat (x3.num : Int)) / (8 : Nat))) : Int) (x3.num : Int)) = (x6.bits : Int)) ∧ 
 (IntKind.wrap IntKind.u64 ((x3.num : Int) + IntKind.wrap IntKind.u64 (IntKind.wrap IntKind.i64 (Int.tdiv (IntKind.wrap IntKind.u64 ((64 : Int) - (x3.num : Int))) (8 : Int)) * (8 : Int))) = (x6.num : Int)) ∧ 
 (x.big = x.big) ∧ 
 (sliceVal x3.pk (Int.toNat (IntKind.wrap IntKind.i64 (Int.tdiv (IntKind.wrap IntKind.u64 ((64 : Int) - (x3.num : Int))) (8 : Int)))) (Int.toNat (x3.pkn : Int)) 1 = x6.pk ∧ Int.toNat (x3.pkn : Int) - Int.toNat (IntKind.wrap IntKind.i64 (Int.tdiv (IntKind.wrap IntKind.u64 ((64 : Int) - (x3.num : Int))) (8 : Int))) = x6.pkn) ∧ 
 (x3.dis = x6.dis) ∧ 
 ((x3.fed : Int) = (x6.fed : Int)) ∧ 
 (Value.pointer none = Value.pointer none) ∧ (x.bb = x.bb ∧ Off.lit 0 = Off.lit 0) ∧ 
 (Value.pointer none = Value.pointer none) ∧ (x.sb = x.sb) ∧ 
 (x.vs = x.vs ∧ ints x.bs = ints x.bs) ∧ 
 ((x3.off : Int) = (x6.off : Int)) ∧ 
 (x3.prev = x6.prev) ∧ 
 (x.bb = x.bb) ∧ 
 (x.sb = x.sb ∧ Off.lit 0 = Off.lit 0) ∧ 
 ((x3.pos : Int) = (x6.pos : Int)) ∧ 
 (x3.bv = x6.bv ∧ x3.bn = x6.bn) ∧ 
 ((512 : Nat) = (512 : Nat) ∧ x3.arr = x6.arr) ∧ 
 (True))))))
 (((x.rb = x.rb) ∧ 
 Br (decide (IntKind.wrap IntKind.i64 (Int.tdiv (IntKind.wrap IntKind.u64 ((64 : Int) - (x3.num : Int))) (8 : Int)) > (x3.pkn : Int)))
 ((x.rb = x.rb) ∧ 
 ∃ x4 : (Unit), (True) ∧ 
 ((x3.pkn : Int) = (↑(min (((64 : Nat) - Int.toNat (x3.num : Int)) / (8 : Nat)) x3.pkn) : Int)) ∧ 
 (x.m = x.m) ∧ (relLe x.rel x.rel) ∧ 
 (x.rb = x.rb) ∧ ((x3.off : Int) = (x3.off : Int)) ∧ (x.sb = x.sb ∧ Off.lit 0 = Off.lit 0) ∧ 
 (Value.nilIface = Value.nilIface) ∧ (x.bb = x.bb ∧ Off.lit 0 = Off.lit 0) ∧ 
 ((x3.bits : Int) = (x3.bits : Int)) ∧ ((x3.num : Int) = (x3.num : Int)) ∧ (x.big = x.big) ∧ (x3.pk = x3.pk ∧ x3.pkn = x3.pkn) ∧ 
 (x3.dis = x3.dis) ∧ ((x3.fed : Int) = (x3.fed : Int)) ∧ (Value.pointer none = Value.pointer none) ∧ (x.bb = x.bb ∧ Off.lit 0 = Off.lit 0) ∧ 
 (Value.pointer none = Value.pointer none) ∧ (x.sb = x.sb) ∧ (x.vs = x.vs ∧ ints x.bs = ints x.bs) ∧ 
 ((x3.off : Int) = (x3.off : Int)) ∧ (x3.prev = x3.prev) ∧ (x.bb = x.bb) ∧ (x.sb = x.sb ∧ Off.lit 0 = Off.lit 0) ∧ 
 ((x3.pos : Int) = (x3.pos : Int)) ∧ (x3.bv = x3.bv ∧ x3.bn = x3.bn) ∧ 
 ((512 : Nat) = (512 : Nat) ∧ x3.arr = x3.arr) ∧ 
 (True))
 (∃ x4 : (Unit), (True) ∧ 
 (IntKind.wrap IntKind.i64 (Int.tdiv (IntKind.wrap IntKind.u64 ((64 : Int) - (x3.num : Int))) (8 : Int)) = (↑(min (((64 : Nat) - Int.toNat (x3.num : Int)) / (8 : Nat)) x3.pkn) : Int)) ∧ 
 (x.m = x.m) ∧ (relLe x.rel x.rel) ∧ 
 (x.rb = x.rb) ∧ ((x3.off : Int) = (x3.off : Int)) ∧ (x.sb = x.sb ∧ Off.lit 0 = Off.lit 0) ∧ 
 (Value.nilIface = Value.nilIface) ∧ (x.bb = x.bb ∧ Off.lit 0 = Off.lit 0) ∧ 
 ((x3.bits : Int) = (x3.bits : Int)) ∧ ((x3.num : Int) = (x3.num : Int)) ∧ (x.big = x.big) ∧ (x3.pk = x3.pk ∧ x3.pkn = x3.pkn) ∧ 
 (x3.dis = x3.dis) ∧ ((x3.fed : Int) = (x3.fed : Int)) ∧ (Value.pointer none = Value.pointer none) ∧ (x.bb = x.bb ∧ Off.lit 0 = Off.lit 0) ∧ 
 (Value.pointer none = Value.pointer none) ∧ (x.sb = x.sb) ∧ (x.vs = x.vs ∧ ints x.bs = ints x.bs) ∧ 
 ((x3.off : Int) = (x3.off : Int)) ∧ (x3.prev = x3.prev) ∧ (x.bb = x.bb) ∧ (x.sb = x.sb ∧ Off.lit 0 = Off.lit 0) ∧ 
 ((x3.pos : Int) = (x3.pos : Int)) ∧ (x3.bv = x3.bv ∧ x3.bn = x3.bn) ∧ 
 ((512 : Nat) = (512 : Nat) ∧ x3.arr = x3.arr) ∧ 
 (True))) ∧
 (∀ x4 : (Unit), ((True) → 
 (x.rb = x.rb) ∧ 
 ((0 : Int) ≤ (0 : Int) ∧ (0 : Int) ≤ (↑(min (((64 : Nat) - Int.toNat (x3.num : Int)) / (8 : Nat)) x3.pkn) : Int) ∧ (↑(min (((64 : Nat) - Int.toNat (x3.num : Int)) / (8 : Nat)) x3.pkn) : Int) ≤ (↑(capVal x3.pk) : Int)) ∧ 
 ∃ x5 : (Nat × Nat), (x5.1 ≤ Int.toNat (↑(min (((64 : Nat) - Int.toNat (x3.num : Int)) / (8 : Nat)) x3.pkn) : Int) ∧ bkOK (RS.W x) x5.2 (Int.toNat (x3.num : Int) + (8 : Nat) * x5.1)) ∧ 
 ((0 : Int) = (x5.1 : Int)) ∧ 
 (x.m = x.m) ∧ (relLe x.rel x.rel) ∧ 
 (x.rb = x.rb) ∧ 
 ((x3.off : Int) = (↑(Int.toNat (x3.off : Int)) : Int)) ∧ 
 (x.sb = x.sb ∧ Off.lit 0 = Off.lit 0) ∧ 
 (Value.nilIface = Value.nilIface) ∧ (x.bb = x.bb ∧ Off.lit 0 = Off.lit 0) ∧ 
 ((x3.bits : Int) = (x5.2 : Int)) ∧ 
 ((x3.num : Int) = (↑(Int.toNat (x3.num : Int) + (8 : Nat) * x5.1) : Int)) ∧ 
 (x.big = x.big) ∧ 
 (x3.pk = x3.pk ∧ x3.pkn = x3.pkn) ∧ 
 (x3.dis = x3.dis) ∧ 
 ((x3.fed : Int) = (↑(Int.toNat (x3.fed : Int)) : Int)) ∧ 
 (Value.pointer none = Value.pointer none) ∧ (x.bb = x.bb ∧ Off.lit 0 = Off.lit 0) ∧ 
 (Value.pointer none = Value.pointer none) ∧ (x.sb = x.sb) ∧ (x.vs = x.vs ∧ ints x.bs = ints x.bs) ∧ 
 ((x3.off : Int) = (x3.off : Int)) ∧ (x3.prev = x3.prev) ∧ (x.bb = x.bb) ∧ (x.sb = x.sb ∧ Off.lit 0 = Off.lit 0) ∧ 
 ((x3.pos : Int) = (x3.pos : Int)) ∧ (x3.bv = x3.bv ∧ x3.bn = x3.bn) ∧ 
 ((512 : Nat) = (512 : Nat) ∧ x3.arr = x3.arr) ∧ 
 ∀ x6 : (Nat × Nat), ((x6.1 ≤ Int.toNat (↑(min (((64 : Nat) - Int.toNat (x3.num : Int)) / (8 : Nat)) x3.pkn) : Int) ∧ bkOK (RS.W x) x6.2 (Int.toNat (x3.num : Int) + (8 : Nat) * x6.1)) → 
 Br (decide ((x6.1 : Int) < (↑(Int.toNat (↑(min (((64 : Nat) - Int.toNat (x3.num : Int)) / (8 : Nat)) x3.pkn) : Int) - (0 : Nat)) : Int)))
 (∃ x7 : (Nat × Nat), (sliceVal x3.pk 0 (Int.toNat (↑(min (((64 : Nat) - Int.toNat (x3.num : Int)) / (8 : Nat)) x3.pkn) : Int)) 1 = Value.slice (some (Addr.mk x.bb ((3 : Nat) + x7.1 * (1 : Nat)) none)) (Int.toNat (↑(min (((64 : Nat) - Int.toNat (x3.num : Int)) / (8 : Nat)) x3.pkn) : Int) - (0 : Nat)) x7.2) ∧ 
 (inRange (x6.1 : Int) (Int.toNat (↑(min (((64 : Nat) - Int.toNat (x3.num : Int)) / (8 : Nat)) x3.pkn) : Int) - (0 : Nat))) ∧ 
 (x.bb = x.bb) ∧ (x7.1 + Int.toNat (x6.1 : Int) < List.length x3.arr) ∧ 
 ∀ x8 : (Int), ((x3.arr[x7.1 + Int.toNat (x6.1 : Int)]? = some x8) → 
 (x.rb = x.rb) ∧ 
 Br x.big
 (∀ x9 : (Nat → Option Obj), (Int.toNat x8 < (256 : Nat)) ∧ 
 (x8 = (↑(Int.toNat x8) : Int)) ∧ 
 (x9 = x9) ∧ 
 (relLe x.rel x.rel) ∧ 
 ∀ x10 : (Unit), ((True) → 
 (x9 = x9) ∧ 
 (x.rb = x.rb) ∧ 
 (x.rb = x.rb) ∧ 
 ((0 : Int) ≤ (↑(Int.toNat (x3.num : Int) + (8 : Nat) * x6.1) : Int)) ∧ 
 (x.rb = x.rb) ∧ 
 (x.rb = x.rb) ∧ 
 (x.rb = x.rb) ∧ 
 (inI64 ((x6.1 : Int) + (1 : Int))) ∧ 
 ∃ x11 : (Nat × Nat), ((x11.1 ≤ Int.toNat (↑(min (((64 : Nat) - Int.toNat (x3.num : Int)) / (8 : Nat)) x3.pkn) : Int) ∧ bkOK (RS.W x) x11.2 (Int.toNat (x3.num : Int) + (8 : Nat) * x11.1)) ∧ Int.toNat (↑(min (((64 : Nat) - Int.toNat (x3.num : Int)) / (8 : Nat)) x3.pkn) : Int) - x11.1 < Int.toNat (↑(min (((64 : Nat) - Int.toNat (x3.num : Int)) / (8 : Nat)) x3.pkn) : Int) - x6.1) ∧ 
 ((x6.1 : Int) + (1 : Int) = (x11.1 : Int)) ∧ 
 (x.m = x.m) ∧ (relLe x.rel x.rel) ∧ 
 (x.rb = x.rb) ∧ ((↑(Int.toNat (x3.off : Int)) : Int) = (↑(Int.toNat (x3.off : Int)) : Int)) ∧ (x.sb = x.sb ∧ Off.lit 0 = Off.lit 0) ∧ 
 (Value.nilIface = Value.nilIface) ∧ (x.bb = x.bb ∧ Off.lit 0 = Off.lit 0) ∧ 
 (bitI BinOp.or IntKind.u64 (x6.2 : Int) (shlI IntKind.u64 (IntKind.wrap IntKind.u64 (↑(numL (byteBits true (Int.toNat x8))) : Int)) (↑(Int.toNat (x3.num : Int) + (8 : Nat) * x6.1) : Int)) = (x11.2 : Int)) ∧ 
 (IntKind.wrap IntKind.u64 ((↑(Int.toNat (x3.num : Int) + (8 : Nat) * x6.1) : Int) + (8 : Int)) = (↑(Int.toNat (x3.num : Int) + (8 : Nat) * x11.1) : Int)) ∧ 
 (x.big = x.big) ∧ (x3.pk = x3.pk ∧ x3.pkn = x3.pkn) ∧ 
 (x3.dis = x3.dis) ∧ ((↑(Int.toNat (x3.fed : Int)) : Int) = (↑(Int.toNat (x3.fed : Int)) : Int)) ∧ (Value.pointer none = Value.pointer none) ∧ (x.bb = x.bb ∧ Off.lit 0 = Off.lit 0) ∧ 
 (Value.pointer none = Value.pointer none) ∧ (x.sb = x.sb) ∧ (x.vs = x.vs ∧ ints x.bs = ints x.bs) ∧ 
 ((x3.off : Int) = (x3.off : Int)) ∧ (x3.prev = x3.prev) ∧ (x.bb = x.bb) ∧ (x.sb = x.sb ∧ Off.lit 0 = Off.lit 0) ∧ 
 ((x3.pos : Int) = (x3.pos : Int)) ∧ (x3.bv = x3.bv ∧ x3.bn = x3.bn) ∧ 
 ((512 : Nat) = (512 : Nat) ∧ x3.arr = x3.arr) ∧ 
 (True)))
 ((x.rb = x.rb) ∧ 
 (x.rb = x.rb) ∧ 
 ((0 : Int) ≤ (↑(Int.toNat (x3.num : Int) + (8 : Nat) * x6.1) : Int)) ∧ 
 (x.rb = x.rb) ∧ 
 (x.rb = x.rb) ∧ 
 (x.rb = x.rb) ∧ 
 (inI64 ((x6.1 : Int) + (1 : Int))) ∧ 
 ∃ x9 : (Nat × Nat), ((x9.1 ≤ Int.toNat (↑(min (((64 : Nat) - Int.toNat (x3.num : Int)) / (8 : Nat)) x3.pkn) : Int) ∧ bkOK (RS.W x) x9.2 (Int.toNat (x3.num : Int) + (8 : Nat) * x9.1)) ∧ Int.toNat (↑(min (((64 : Nat) - Int.toNat (x3.num : Int)) / (8 : Nat)) x3.pkn) : Int) - x9.1 < Int.toNat (↑(min (((64 : Nat) - Int.toNat (x3.num : Int)) / (8 : Nat)) x3.pkn) : Int) - x6.1) ∧ 
 ((x6.1 : Int) + (1 : Int) = (x9.1 : Int)) ∧ 
 (x.m = x.m) ∧ (relLe x.rel x.rel) ∧ 
 (x.rb = x.rb) ∧ ((↑(Int.toNat (x3.off : Int)) : Int) = (↑(Int.toNat (x3.off : Int)) : Int)) ∧ (x.sb = x.sb ∧ Off.lit 0 = Off.lit 0) ∧ 
 (Value.nilIface = Value.nilIface) ∧ (x.bb = x.bb ∧ Off.lit 0 = Off.lit 0) ∧ 
 (bitI BinOp.or IntKind.u64 (x6.2 : Int) (shlI IntKind.u64 (IntKind.wrap IntKind.u64 x8) (↑(Int.toNat (x3.num : Int) + (8 : Nat) * x6.1) : Int)) = (x9.2 : Int)) ∧ 
 (IntKind.wrap IntKind.u64 ((↑(Int.toNat (x3.num : Int) + (8 : Nat) * x6.1) : Int) + (8 : Int)) = (↑(Int.toNat (x3.num : Int) + (8 : Nat) * x9.1) : Int)) ∧ 
 (x.big = x.big) ∧ (x3.pk = x3.pk ∧ x3.pkn = x3.pkn) ∧ 
 (x3.dis = x3.dis) ∧ ((↑(Int.toNat (x3.fed : Int)) : Int) = (↑(Int.toNat (x3.fed : Int)) : Int)) ∧ (Value.pointer none = Value.pointer none) ∧ (x.bb = x.bb ∧ Off.lit 0 = Off.lit 0) ∧ 
 (Value.pointer none = Value.pointer none) ∧ (x.sb = x.sb) ∧ (x.vs = x.vs ∧ ints x.bs = ints x.bs) ∧ 
 ((x3.off : Int) = (x3.off : Int)) ∧ (x3.prev = x3.prev) ∧ (x.bb = x.bb) ∧ (x.sb = x.sb ∧ Off.lit 0 = Off.lit 0) ∧ 
 ((x3.pos : Int) = (x3.pos : Int)) ∧ (x3.bv = x3.bv ∧ x3.bn = x3.bn) ∧ 
 ((512 : Nat) = (512 : Nat) ∧ x3.arr = x3.arr) ∧ 
 (True))))
 ((x.rb = x.rb) ∧ 
 ((0 : Int) ≤ (↑(min (((64 : Nat) - Int.toNat (x3.num : Int)) / (8 : Nat)) x3.pkn) : Int) ∧ (↑(min (((64 : Nat) - Int.toNat (x3.num : Int)) / (8 : Nat)) x3.pkn) : Int) ≤ (x3.pkn : Int) ∧ (x3.pkn : Int) ≤ (↑(capVal x3.pk) : Int)) ∧ 
 (x.rb = x.rb) ∧ 
 (x.rb = x.rb) ∧ 
 Br (decide ((↑(Int.toNat (x3.num : Int) + (8 : Nat) * x6.1) : Int) > (56 : Int)))
 (∃ x7 : (RV), (plOK x x7 ∧ nb ≤ x7.num) ∧ 
 (x.m = x.m) ∧ (relLe x.rel x.rel) ∧ 
 (x.rb = x.rb) ∧ 
 ((↑(Int.toNat (x3.off : Int)) : Int) = (x7.off : Int)) ∧ 
 (x.sb = x.sb ∧ Off.lit 0 = Off.lit 0) ∧ 
 (Value.nilIface = Value.nilIface) ∧ (x.bb = x.bb ∧ Off.lit 0 = Off.lit 0) ∧ 
 ((x6.2 : Int) = (x7.bits : Int)) ∧ 
 ((↑(Int.toNat (x3.num : Int) + (8 : Nat) * x6.1) : Int) = (x7.num : Int)) ∧ 
 (x.big = x.big) ∧ 
 (sliceVal x3.pk (Int.toNat (↑(min (((64 : Nat) - Int.toNat (x3.num : Int)) / (8 : Nat)) x3.pkn) : Int)) (Int.toNat (x3.pkn : Int)) 1 = x7.pk ∧ Int.toNat (x3.pkn : Int) - Int.toNat (↑(min (((64 : Nat) - Int.toNat (x3.num : Int)) / (8 : Nat)) x3.pkn) : Int) = x7.pkn) ∧ 
 (x3.dis = x7.dis) ∧ 
 ((↑(Int.toNat (x3.fed : Int)) : Int) = (x7.fed : Int)) ∧ 
 (Value.pointer none = Value.pointer none) ∧ (x.bb = x.bb ∧ Off.lit 0 = Off.lit 0) ∧ 
 (Value.pointer none = Value.pointer none) ∧ (x.sb = x.sb) ∧ 
 (x.vs = x.vs ∧ ints x.bs = ints x.bs) ∧ 
 ((x3.off : Int) = (x7.off : Int)) ∧ 
 (x3.prev = x7.prev) ∧ 
 (x.bb = x.bb) ∧ 
 (x.sb = x.sb ∧ Off.lit 0 = Off.lit 0) ∧ 
 ((x3.pos : Int) = (x7.pos : Int)) ∧ 
 (x3.bv = x7.bv ∧ x3.bn = x7.bn) ∧ 
 ((512 : Nat) = (512 : Nat) ∧ x3.arr = x7.arr) ∧ 
 (True))
 (∃ x7 : (RV), (plOK x x7 ∧ (64 : Nat) - x7.num < (64 : Nat) - x2.num) ∧ 
 (x.m = x.m) ∧ (relLe x.rel x.rel) ∧ 
 (x.rb = x.rb) ∧ 
 ((↑(Int.toNat (x3.off : Int)) : Int) = (x7.off : Int)) ∧ 
 (x.sb = x.sb ∧ Off.lit 0 = Off.lit 0) ∧ 
 (Value.nilIface = Value.nilIface) ∧ (x.bb = x.bb ∧ Off.lit 0 = Off.lit 0) ∧ 
 ((x6.2 : Int) = (x7.bits : Int)) ∧ 
 ((↑(Int.toNat (x3.num : Int) + (8 : Nat) * x6.1) : Int) = (x7.num : Int)) ∧ 
 (x.big = x.big) ∧ 
 (sliceVal x3.pk (Int.toNat (↑(min (((64 : Nat) - Int.toNat (x3.num : Int)) / (8 : Nat)) x3.pkn) : Int)) (Int.toNat (x3.pkn : Int)) 1 = x7.pk ∧ Int.toNat (x3.pkn : Int) - Int.toNat (↑(min (((64 : Nat) - Int.toNat (x3.num : Int)) / (8 : Nat)) x3.pkn) : Int) = x7.pkn) ∧ 
 (x3.dis = x7.dis) ∧ 
 ((↑(Int.toNat (x3.fed : Int)) : Int) = (x7.fed : Int)) ∧ 
 (Value.pointer none = Value.pointer none) ∧ (x.bb = x.bb ∧ Off.lit 0 = Off.lit 0) ∧ 
 (Value.pointer none = Value.pointer none) ∧ (x.sb = x.sb) ∧ 
 (x.vs = x.vs ∧ ints x.bs = ints x.bs) ∧ 
 ((x3.off : Int) = (x7.off : Int)) ∧ 
 (x3.prev = x7.prev) ∧ 
 (x.bb = x.bb) ∧ 
 (x.sb = x.sb ∧ Off.lit 0 = Off.lit 0) ∧ 
 ((x3.pos : Int) = (x7.pos : Int)) ∧ 
 (x3.bv = x7.bv ∧ x3.bn = x7.bn) ∧ 
 ((512 : Nat) = (512 : Nat) ∧ x3.arr = x7.arr) ∧ 
 (True))))))))))) ∧
 (∀ x1 : (RV), ((plOK x x1 ∧ nb ≤ x1.num) → 
 (x.rb = x.rb) ∧ 
 (x.rb = x.rb) ∧ 
 ((∃ x2 : (RV), (pulled x nb x2) ∧ 
 (Value.nilIface = Value.nilIface) ∧ (x.m = x.m) ∧ 
 (relLe x.rel x.rel) ∧ 
 (x.rb = x.rb) ∧ 
 ((x1.off : Int) = (x2.off : Int)) ∧ 
 (x.sb = x.sb ∧ Off.lit 0 = Off.lit 0) ∧ 
 (Value.nilIface = Value.nilIface) ∧ (x.bb = x.bb ∧ Off.lit 0 = Off.lit 0) ∧ 
 ((x1.bits : Int) = (x2.bits : Int)) ∧ 
 ((x1.num : Int) = (x2.num : Int)) ∧ 
 (x.big = x.big) ∧ 
 (x1.pk = x2.pk ∧ x1.pkn = x2.pkn) ∧ 
 (x1.dis = x2.dis) ∧ 
 ((x1.num : Int) = (x2.fed : Int)) ∧ 
 (Value.pointer none = Value.pointer none) ∧ (x.bb = x.bb ∧ Off.lit 0 = Off.lit 0) ∧ 
 (Value.pointer none = Value.pointer none) ∧ (x.sb = x.sb) ∧ 
 (x.vs = x.vs ∧ ints x.bs = ints x.bs) ∧ 
 ((x1.off : Int) = (x2.off : Int)) ∧ 
 (x1.prev = x2.prev) ∧ 
 (x.bb = x.bb) ∧ 
 (x.sb = x.sb ∧ Off.lit 0 = Off.lit 0) ∧ 
 ((x1.pos : Int) = (x2.pos : Int)) ∧ 
 (x1.bv = x2.bv ∧ x1.bn = x2.bn) ∧ 
 ((512 : Nat) = (512 : Nat) ∧ x1.arr = x2.arr) ∧ 
 (True)) ∨
 (∃ x2 : (RV), (dry x nb x2) ∧ 
 (Value.nilIface = errV (Gl.U G)) ∧ 
 (x.m = x.m) ∧ 
 (relLe x.rel x.rel) ∧ 
 (x.rb = x.rb) ∧ 
 ((x1.off : Int) = (x2.off : Int)) ∧ 
 (x.sb = x.sb ∧ Off.lit 0 = Off.lit 0) ∧ 
 (Value.nilIface = Value.nilIface) ∧ (x.bb = x.bb ∧ Off.lit 0 = Off.lit 0) ∧ 
 ((x1.bits : Int) = (x2.bits : Int)) ∧ 
 ((x1.num : Int) = (x2.num : Int)) ∧ 
 (x.big = x.big) ∧ 
 (x1.pk = x2.pk ∧ x1.pkn = x2.pkn) ∧ 
 (x1.dis = x2.dis) ∧ 
 ((x1.num : Int) = (x2.fed : Int)) ∧ 
 (Value.pointer none = Value.pointer none) ∧ (x.bb = x.bb ∧ Off.lit 0 = Off.lit 0) ∧ 
 (Value.pointer none = Value.pointer none) ∧ (x.sb = x.sb) ∧ 
 (x.vs = x.vs ∧ ints x.bs = ints x.bs) ∧ 
 ((x1.off : Int) = (x2.off : Int)) ∧ 
 (x1.prev = x2.prev) ∧ 
 (x.bb = x.bb) ∧ 
 (x.sb = x.sb ∧ Off.lit 0 = Off.lit 0) ∧ 
 ((x1.pos : Int) = (x2.pos : Int)) ∧ 
 (x1.bv = x2.bv ∧ x1.bn = x2.bn) ∧ 
 ((512 : Nat) = (512 : Nat) ∧ x1.arr = x2.arr) ∧ 
 (True)))))
noncomputable def law_c143 (G : Gl) (P : Nat) (x : RS) (nb : Nat) : VCT := fnx (CH G 4) (INH G 4 (b143 G) NA) (a143 x nb) Tryz.f143 ((c143 G P).args (x, nb)) ((c143 G P).H (x, nb)) (outK true 5 ((c143 G P).ret (x, nb))) ((c143 G P).pan (x, nb))
theorem eq_c143 (G : Gl) (P : Nat) (x : RS) (nb : Nat) : cond_c143 G P x nb = (law_c143 G P x nb).den := by kernel_rfl
theorem rb_of {x : RS} {v : RV} (h : rsL (x.put v)) (m : Fz) (prev : Int) : rbOK ⟨m, x.rel, x.bb, x.sb, v.pos, v.bv, v.bn, v.arr, x.vs, x.bs, v.off, prev⟩ where
  arr := h.arr
  pi := h.pos
  il := by have h1 : v.off ≤ (x.P + 7) / 8 := h.off; have h2 : x.P + v.num ≤ 8 * x.bs.length := h.end_; dsimp only; omega
  len := h.len
  view := h.bv
theorem ok_c143 (G : Gl) (P : Nat) (x : RS) (nb : Nat) (hx : rsOK x) (hn : nb ≤ 56) : cond_c143 G P x nb := by
  unfold cond_c143
  have e3 : ∀ l : List Nat, nats (ints l) = l := nats_ints
  have e0 := hx.l.bk.n
  have ef := hx.fed
  have ed := hx.dis
  have el := hx.l.len
  have ee := hx.l.end_
  have eo := hx.l.off
  have e1 : IntKind.u64.wrap ((x.fed : Int) - (x.num : Int)) = (x.fed : Int) - (x.num : Int) := by rw [wr64]; omega
  have ec := ceil8 ⟨nb, by omega⟩
  dsimp only at ec
  have ec1 : Int.tdiv ((8 * ((nb + 7) / 8) : Nat) : Int) 8 = (((nb + 7) / 8 : Nat) : Int) := by rw [Int.tdiv_eq_ediv_of_nonneg (by omega)]; omega
  have ec2 : IntKind.i64.wrap (((nb + 7) / 8 : Nat) : Int) = (((nb + 7) / 8 : Nat) : Int) := wrI (by omega) (by omega)
  simp only [e1, e3, ec, ec1, ec2, br_d, br_i, rel_self, true_and, and_true, inRange, inI64, Int.toNat_natCast]
  refine ⟨by omega, by omega, ⟨⟨x.off, x.bits, x.num, x.pk, x.pkn, x.dis + ((x.fed : Int) - x.num), x.fed, x.pos, x.bv, x.bn, x.arr, x.prev⟩, pl_enter hx, rfl, rfl, rfl, ⟨rfl, rfl⟩, rfl, rfl, rfl, rfl, rfl, ⟨rfl, rfl⟩, rfl, fun v hv => ⟨⟨fun hp0 => ⟨x.P, fun m => ⟨?_, fun _ _ => ⟨by omega, by decide, fun m => ⟨?_, fun y hy => ⟨fun h1 m => ⟨?_, fun z hz => ?_⟩, fun h1 => ?_⟩⟩, fun f hf m => ⟨⟨?_, hf.2.2.2.2⟩, fun y hy => ?_, fun y hy => ?_⟩⟩⟩⟩, fun hp0 => ?_⟩, fun w hw => ?_⟩⟩, fun v hv => .inl ⟨_, pulled_mk hv.1 hv.2, rfl, rfl, rfl, ⟨rfl, rfl⟩, rfl, rfl, rfl, rfl, rfl, ⟨rfl, rfl⟩, rfl⟩⟩
  · refine ⟨hv.l.bytes, hv.l.len, hv.l.bk.n, hv.l.al, hv.l.end_, hv.l.off, hv.l.pos, hv.l.arr, hv.l.pk, hv.l.bv, hv.l.cov, ?_, Nat.le_refl _, hv.l.bk.n⟩
    have := hv.dis
    dsimp only; omega
  · have h1 : v.off ≤ (x.P + 7) / 8 := hv.l.off
    have h2 : v.pos ≤ v.off := hv.l.pos
    have h3 : x.P + v.num ≤ 8 * x.bs.length := hv.l.end_
    exact ⟨hv.l.arr, by dsimp only; omega, by dsimp only; omega, hv.l.len, hv.l.bv⟩
  · have h3 : x.P + v.num ≤ 8 * x.bs.length := hv.l.end_
    exact ⟨hv.l.arr, Nat.le_refl _, by dsimp only; omega, hv.l.len, hy.2⟩
  · have h9 := vw_end hz.2
    exact ⟨⟨_, z.2⟩, ⟨fl_mk hv (by omega) (by have := hy.1; omega) hz.2 rfl rfl, rfl, by dsimp only; omega, Nat.le_refl _, by dsimp only; omega⟩, rfl, rfl, rfl, rfl, ⟨rfl, rfl⟩, rfl, rfl, rfl, rfl, rfl, ⟨rfl, rfl⟩, rfl⟩
  · exact ⟨⟨_, (nb + 7) / 8⟩, ⟨fl_mk hv (by omega) (by have := hy.1; omega) hy.2 rfl rfl, rfl, Nat.le_refl _, by dsimp only; omega, by dsimp only; omega⟩, rfl, rfl, rfl, rfl, ⟨rfl, rfl⟩, rfl, rfl, rfl, rfl, rfl, ⟨rfl, rfl⟩, rfl⟩
  · exact rb_of hf.1.l m _
  · obtain ⟨h1, h2, h3⟩ := fl_skip hf.1
    have h64 : f.1.num ≤ 64 := hf.1.l.bk.n
    have t1 : Int.tdiv (f.1.num : Int) 8 = ((f.1.num / 8 : Nat) : Int) := by rw [Int.tdiv_eq_ediv_of_nonneg (by omega)]; omega
    have t2 : IntKind.u64.wrap ((f.1.num / 8 : Nat) : Int) = ((f.1.num / 8 : Nat) : Int) := by rw [wr64]; omega
    simp only [t1, t2, Int.toNat_natCast]
    have hc := vw_cap hy.2.peek
    have key := pl_peek hf.1 (pn := f.2) (by omega) hy.2.arr hy.2.peek hy.2.view hy.2.more
    refine ⟨by decide, by omega, by omega, fun h4 => ⟨fun h5 => ⟨_, ⟨key, by dsimp only; omega⟩, rfl, rfl, rfl, ⟨rfl, rfl⟩, rfl, rfl, rfl, rfl, rfl, ⟨rfl, rfl⟩, rfl⟩, fun h5 => by omega⟩, fun h4 => ⟨_, ⟨key, by dsimp only; omega, hf.2.1⟩, rfl, rfl, rfl, ⟨rfl, rfl⟩, rfl, rfl, rfl, rfl, rfl, ⟨rfl, rfl⟩, rfl⟩⟩
  · obtain ⟨h1, h2, h3⟩ := fl_skip hf.1
    have h64 : f.1.num ≤ 64 := hf.1.l.bk.n
    have t1 : Int.tdiv (f.1.num : Int) 8 = ((f.1.num / 8 : Nat) : Int) := by rw [Int.tdiv_eq_ediv_of_nonneg (by omega)]; omega
    have t2 : IntKind.u64.wrap ((f.1.num / 8 : Nat) : Int) = ((f.1.num / 8 : Nat) : Int) := by rw [wr64]; omega
    simp only [t1, t2, Int.toNat_natCast]
    have hc := vw_cap hy.2.peek
    have key := pl_peek hf.1 (pn := x.bs.length - f.1.off) (by omega) hy.2.arr hy.2.peek hy.2.view hy.2.more
    have al : (x.P + f.1.num) % 8 = 0 := hf.1.l.al
    refine ⟨by decide, by omega, by omega, fun h4 => ⟨fun h5 => ⟨_, ⟨key, by dsimp only; omega⟩, rfl, rfl, rfl, ⟨rfl, rfl⟩, rfl, rfl, rfl, rfl, rfl, ⟨rfl, rfl⟩, rfl⟩, fun h5 => .inr ⟨_, dry_mk key hf.1.fed (by dsimp only; omega) (by dsimp only; omega), rfl, rfl, rfl, ⟨rfl, rfl⟩, rfl, rfl, rfl, rfl, rfl, ⟨rfl, rfl⟩, rfl⟩⟩, fun h4 => ⟨_, ⟨key, by dsimp only; omega, hf.2.1⟩, rfl, rfl, rfl, ⟨rfl, rfl⟩, rfl, rfl, rfl, rfl, rfl, ⟨rfl, rfl⟩, rfl⟩⟩
  · exact ⟨v, ⟨hv, by omega, rfl⟩, rfl, rfl, rfl, ⟨rfl, rfl⟩, rfl, rfl, rfl, rfl, rfl, ⟨rfl, rfl⟩, rfl⟩
  · obtain ⟨hw, hpos, hnum⟩ := hw
    have h64 : w.num ≤ 64 := hw.l.bk.n
    have hbk : bkOK x.W w.bits w.num := hw.l.bk
    have hvw : vw x.bb w.arr x.bs w.pk w.pkn ((x.P + w.num) / 8) := hw.l.pk
    have harr : w.arr.length = 512 := hw.l.arr
    have hend := vw_end hvw
    have hcap := vw_cap hvw
    have hlen := hw.l.len
    have hby : ∀ b ∈ x.bs, b < 256 := hw.l.bytes
    have hlen : x.bs.length ≤ 300 := hlen
    obtain ⟨lo, cap, hpk, hlo, hget⟩ := vw_get hvw hpos
    have hc256 : ∀ {j c : Nat}, x.bs[j]? = some c → c < 256 := fun h => hby _ (List.mem_of_getElem? h)
    have u1 : IntKind.u64.wrap (64 - (w.num : Int)) = ((64 - w.num : Nat) : Int) := by rw [wr64]; omega
    have u2 : Int.tdiv ((64 - w.num : Nat) : Int) 8 = (((64 - w.num) / 8 : Nat) : Int) := by rw [Int.tdiv_eq_ediv_of_nonneg (by omega)]; omega
    have u3 : IntKind.i64.wrap (((64 - w.num) / 8 : Nat) : Int) = (((64 - w.num) / 8 : Nat) : Int) := wrI (by omega) (by omega)
    have hW := W_at hw
    simp only [u1, u2, u3, Int.toNat_natCast, Nat.sub_zero]
    refine ⟨by omega, by decide, fun h8 => ⟨fun _ => ⟨(lo, cap), hpk, by omega, by dsimp only; omega, fun z h => ⟨(lo, cap), hpk, by omega, by dsimp only; omega, fun z0 h0 => ⟨(lo, cap), hpk, by omega, by dsimp only; omega, fun z1 h1 => ⟨by decide, (lo, cap), hpk, by omega, by dsimp only; omega, fun z2 h2 => ⟨by decide, (lo, cap), hpk, by omega, by dsimp only; omega, fun z3 h3 => ⟨by decide, (lo, cap), hpk, by omega, by dsimp only; omega, fun z4 h4 => ⟨by decide, (lo, cap), hpk, by omega, by dsimp only; omega, fun z5 h5 => ⟨by decide, (lo, cap), hpk, by omega, by dsimp only; omega, fun z6 h6 => ⟨by decide, (lo, cap), hpk, by omega, by dsimp only; omega, fun z7 h7 => ⟨by decide, (), ?_⟩⟩⟩⟩⟩⟩⟩⟩⟩⟩, fun _ _ => ⟨?_, fun _ _ => ⟨by omega, by omega, by omega, ⟨_, ⟨pl_more hw (n := (64 - w.num) / 8) (by omega) hpos (bk_more (V := wd8 x.big x.bs ((x.P + w.num) / 8)) (m := 64) (m' := 8 * ((64 - w.num) / 8)) hbk ?_ (by omega) (by omega)) rfl, by dsimp only; omega⟩, rfl, ?_, ?_, ⟨rfl, rfl⟩, rfl, rfl, rfl, rfl, rfl, ⟨rfl, rfl⟩, rfl⟩⟩⟩⟩, fun h8 => ⟨⟨fun h1 => ⟨(), ?_⟩, fun h1 => ⟨(), ?_⟩⟩, fun _ _ => ⟨by omega, ⟨(0, w.bits), ⟨Nat.zero_le _, hbk⟩, rfl, rfl, rfl, fun y hy => ⟨fun h1 => ?_, fun h1 => ⟨by omega, fun h2 => ?_, fun h2 => ?_⟩⟩⟩⟩⟩⟩
    · obtain ⟨c0, k0, rfl⟩ := hget 0 z0 (by omega) h0
      obtain ⟨c1, k1, rfl⟩ := hget 1 z1 (by omega) h1
      obtain ⟨c2, k2, rfl⟩ := hget 2 z2 (by omega) h2
      obtain ⟨c3, k3, rfl⟩ := hget 3 z3 (by omega) h3
      obtain ⟨c4, k4, rfl⟩ := hget 4 z4 (by omega) h4
      obtain ⟨c5, k5, rfl⟩ := hget 5 z5 (by omega) h5
      obtain ⟨c6, k6, rfl⟩ := hget 6 z6 (by omega) h6
      obtain ⟨c7, k7, rfl⟩ := hget 7 z7 (by omega) h7
      rw [word8 (hc256 k0) (hc256 k1) (hc256 k2) (hc256 k3) (hc256 k4) (hc256 k5) (hc256 k6) (hc256 k7)]
      unfold wd8
      rw [eight k0 k1 k2 k3 k4 k5 k6 k7]
    · have hl8 : ((x.bs.drop ((x.P + w.num) / 8)).take 8).length = 8 := by rw [List.length_take, List.length_drop]; omega
      have hwl : ∀ big, wd8 big x.bs ((x.P + w.num) / 8) < 2 ^ 64 := fun big => by
        have := stream_lt big ((x.bs.drop ((x.P + w.num) / 8)).take 8)
        rwa [hl8] at this
      refine br_mk (fun hb => ⟨by decide, by decide, by decide, by decide, by decide, by decide, (), ?_⟩) (fun hb => ⟨(), by rw [hb]⟩)
      have s1 := stage_run (hi := 12297829382473034410) (lo := 6148914691236517205) (s := 1) (hwl false) (by decide) (by decide) (by decide)
      have s2 := stage_run (u := stage (wd8 false x.bs ((x.P + w.num) / 8)) 12297829382473034410 6148914691236517205 1) (hi := 14757395258967641292) (lo := 3689348814741910323) (s := 2) (stage_lt (hwl false)) (by decide) (by decide) (by decide)
      have s3 := stage_run (u := stage (stage (wd8 false x.bs ((x.P + w.num) / 8)) 12297829382473034410 6148914691236517205 1) 14757395258967641292 3689348814741910323 2) (hi := 17361641481138401520) (lo := 1085102592571150095) (s := 4) (stage_lt (stage_lt (hwl false))) (by decide) (by decide) (by decide)
      rw [← s1] at s2
      rw [← s2] at s3
      refine s3.trans ?_
      rw [hb]
      exact congrArg _ (swap8 hl8)
    · rw [hW]
      exact wd8_mod x.big x.bs (by omega)
    · have hl8 : ((x.bs.drop ((x.P + w.num) / 8)).take 8).length = 8 := by rw [List.length_take, List.length_drop]; omega
      rw [shlN rfl, show min w.num IntKind.u64.bits = w.num by simp only [IntKind.bits]; omega]
      exact orN rfl hbk.lt (Nat.mod_lt _ (by decide))
    · rw [wr64, wr64]; dsimp only; omega
    · omega
    · omega
    · have hsl : sliceVal w.pk 0 (min ((64 - w.num) / 8) w.pkn) 1 = .slice (some ⟨x.bb, 3 + lo * 1, none⟩) (min ((64 - w.num) / 8) w.pkn) cap := by
        rw [hpk]; simp [sliceVal, Addr.add]
      refine ⟨(lo, cap), hsl, by omega, by dsimp only; omega, fun z hz => ?_⟩
      obtain ⟨c, hc, rfl⟩ := hget y.1 z (by omega) hz
      have h256 := hc256 hc
      have hyl := hy.2.n
      have al : (x.P + w.num) % 8 = 0 := hw.l.al
      have hV : numL (byteBits x.big c) = x.W / 2 ^ (w.num + 8 * y.1) % 2 ^ 8 := by
        rw [byte_mod x.big hc]
        unfold RS.W
        rw [Nat.div_div_eq_div_mul, ← Nat.pow_add]
        congr 3; omega
      have hbk2 := bk_more hy.2 hV (Nat.le_refl 8) (by omega)
      have hnum2 : w.num + 8 * y.1 + 8 = w.num + 8 * (y.1 + 1) := by omega
      rw [hnum2] at hbk2
      have hlt := numL_lt (byteBits_lt x.big c)
      rw [byteBits_len] at hlt
      have hrun : bitI BinOp.or IntKind.u64 (y.2 : Int) (shlI IntKind.u64 (IntKind.u64.wrap ((numL (byteBits x.big c) : Nat) : Int)) ((w.num + 8 * y.1 : Nat) : Int)) = ((y.2 ||| numL (byteBits x.big c) * 2 ^ (w.num + 8 * y.1) % 2 ^ 64 : Nat) : Int) := by
        rw [wrId rfl (by simp only [IntKind.bits]; omega), shlN rfl, show min (w.num + 8 * y.1) IntKind.u64.bits = w.num + 8 * y.1 by simp only [IntKind.bits]; omega]
        exact orN rfl hy.2.lt (Nat.mod_lt _ (by decide))
      have hadd : IntKind.u64.wrap (((w.num + 8 * y.1 : Nat) : Int) + 8) = ((w.num + 8 * (y.1 + 1) : Nat) : Int) := by rw [wr64]; omega
      simp only [Int.toNat_natCast]
      refine br_mk (fun hb => fun _ => ⟨h256, trivial, fun _ _ => ⟨by omega, by omega, (y.1 + 1, _), ⟨⟨by dsimp only; omega, hbk2⟩, by dsimp only; omega⟩, rfl, ?_, hadd⟩⟩) (fun hb => ⟨by omega, by omega, (y.1 + 1, _), ⟨⟨by dsimp only; omega, hbk2⟩, by dsimp only; omega⟩, rfl, ?_, hadd⟩)
      · rw [hb] at hrun ⊢; exact hrun
      · have hbn := byte_num ⟨c, h256⟩
        dsimp only at hbn
        rw [hb, hbn] at hrun ⊢; exact hrun
    · exact ⟨_, ⟨pl_more hw (n := min ((64 - w.num) / 8) w.pkn) (by omega) hpos hy.2 (by omega), by dsimp only; omega⟩, rfl, rfl, rfl, ⟨rfl, rfl⟩, rfl, rfl, rfl, rfl, rfl, ⟨rfl, rfl⟩, rfl⟩
    · exact ⟨_, ⟨pl_more hw (n := min ((64 - w.num) / 8) w.pkn) (by omega) hpos hy.2 (by omega), by dsimp only; omega⟩, rfl, rfl, rfl, ⟨rfl, rfl⟩, rfl, rfl, rfl, rfl, rfl, ⟨rfl, rfl⟩, rfl⟩
theorem b143_ok (G : Gl) : ∀ f pt, b143 G f = some pt → SpecOK (CC G) f pt := by
  intro f pt h
  unfold b143 at h
  split at h
  · cases h; exact exPT_ok 0 fun P => loc_ok (s80 G P) _
  · cases h; exact loc_ok (s164 G) _
  · cases h; exact loc_ok (s212 G) _
  · cases h; exact loc_ok (s213 G) _
  · cases h; exact loc_ok (s214 G) _
  · cases h
theorem s143 (G : Gl) (P : Nat) : SpecOK (CC G) 143 (c143 G P).pt := specH G 4 (b143_ok G) (fn := Tryz.f143) rfl NA (c143 G P) (fun x => a143 x.1 x.2) fun ⟨x, nb⟩ h => Met.of (eq_c143 G P x nb) (ok_c143 G P x nb h.1 h.2)
end Pc
