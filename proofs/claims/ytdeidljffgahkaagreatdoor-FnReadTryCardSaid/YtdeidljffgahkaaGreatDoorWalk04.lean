/-
  The reader's small methods do what their contracts say.
-/
import Derived.Test.YtdeidljffgahkaaGreatDoorWalk03
set_option linter.unusedVariables false
set_option maxRecDepth 100000
open Go Go.Vg Go.Proofs
namespace Pc
def cond_c103 (G : Gl) (P : Nat) (x : RS) (nb : Nat) : Prop :=
 ∃ x1 : (Nat), ∀ x2 : (Nat → Option Obj), (rsOK (RS.mk x2 x.rel x.rb x.sb x.bb x.vs (nats (ints x.bs)) x.big x1 (Int.toNat (x.off : Int)) (Int.toNat (x.bits : Int)) (Int.toNat (x.num : Int)) x.pk x.pkn x.dis (Int.toNat (x.fed : Int)) (Int.toNat (x.pos : Int)) x.bv x.bn x.arr x.prev) ∧ Int.toNat (↑nb : Int) ≤ (56 : Nat)) ∧ 
 (x.rb = x.rb ∧ Off.lit 0 = Off.lit 0) ∧ 
 ((↑nb : Int) = (↑(Int.toNat (↑nb : Int)) : Int)) ∧ 
 (x2 = x2) ∧ 
 (relLe x.rel x.rel) ∧ 
 (x.rb = x.rb) ∧ 
 ((x.off : Int) = (↑(Int.toNat (x.off : Int)) : Int)) ∧ 
 (x.sb = x.sb ∧ Off.lit 0 = Off.lit 0) ∧ 
 (Value.nilIface = Value.nilIface) ∧ (x.bb = x.bb ∧ Off.lit 0 = Off.lit 0) ∧ 
 ((x.bits : Int) = (↑(Int.toNat (x.bits : Int)) : Int)) ∧ 
 ((x.num : Int) = (↑(Int.toNat (x.num : Int)) : Int)) ∧ 
 (x.big = x.big) ∧ 
 (x.pk = x.pk ∧ x.pkn = x.pkn) ∧ 
 (x.dis = x.dis) ∧ 
 ((x.fed : Int) = (↑(Int.toNat (x.fed : Int)) : Int)) ∧ 
 (Value.pointer none = Value.pointer none) ∧ (x.bb = x.bb ∧ Off.lit 0 = Off.lit 0) ∧ 
 (Value.pointer none = Value.pointer none) ∧ (x.sb = x.sb) ∧ 
 (x.vs = x.vs ∧ ints x.bs = ints (nats (ints x.bs))) ∧ 
 ((x.off : Int) = (↑(Int.toNat (x.off : Int)) : Int)) ∧ 
 (x.prev = x.prev) ∧ 
 (x.bb = x.bb) ∧ 
 (x.sb = x.sb ∧ Off.lit 0 = Off.lit 0) ∧ 
 ((x.pos : Int) = (↑(Int.toNat (x.pos : Int)) : Int)) ∧ 
 (x.bv = x.bv ∧ x.bn = x.bn) ∧ 
 ((512 : Nat) = (512 : Nat) ∧ x.arr = x.arr) ∧ 
 (∀ x3 : (RV), (pulled (RS.mk x2 x.rel x.rb x.sb x.bb x.vs (nats (ints x.bs)) x.big x1 (Int.toNat (x.off : Int)) (Int.toNat (x.bits : Int)) (Int.toNat (x.num : Int)) x.pk x.pkn x.dis (Int.toNat (x.fed : Int)) (Int.toNat (x.pos : Int)) x.bv x.bn x.arr x.prev) (Int.toNat (↑nb : Int)) x3) → 
 (x2 = x2) ∧ 
 (x.rb = x.rb) ∧ 
 ((0 : Int) ≤ (↑nb : Int)) ∧ 
 (x.rb = x.rb) ∧ 
 ((0 : Int) ≤ (↑nb : Int)) ∧ 
 (x.rb = x.rb) ∧ 
 (x.rb = x.rb) ∧ 
 (x.rb = x.rb) ∧ 
 ∃ x4 : (RV), (took x nb x4) ∧ 
 (bitI BinOp.and IntKind.u64 (x3.bits : Int) (IntKind.wrap IntKind.u64 (shlI IntKind.u64 (1 : Int) (↑nb : Int) - (1 : Int))) = (↑(RS.W x % (2 : Nat) ^ nb) : Int)) ∧ 
 (x.m = x.m) ∧ 
 (relLe x.rel x.rel) ∧ 
 (x.rb = x.rb) ∧ 
 ((x3.off : Int) = (x4.off : Int)) ∧ 
 (x.sb = x.sb ∧ Off.lit 0 = Off.lit 0) ∧ 
 (Value.nilIface = Value.nilIface) ∧ (x.bb = x.bb ∧ Off.lit 0 = Off.lit 0) ∧ 
 (shrI IntKind.u64 (x3.bits : Int) (↑nb : Int) = (x4.bits : Int)) ∧ 
 (IntKind.wrap IntKind.u64 ((x3.num : Int) - (↑nb : Int)) = (x4.num : Int)) ∧ 
 (x.big = x.big) ∧ 
 (x3.pk = x4.pk ∧ x3.pkn = x4.pkn) ∧ 
 (x3.dis = x4.dis) ∧ 
 ((x3.fed : Int) = (x4.fed : Int)) ∧ 
 (Value.pointer none = Value.pointer none) ∧ (x.bb = x.bb ∧ Off.lit 0 = Off.lit 0) ∧ 
 (Value.pointer none = Value.pointer none) ∧ (x.sb = x.sb) ∧ 
 (x.vs = x.vs ∧ ints (nats (ints x.bs)) = ints x.bs) ∧ 
 ((x3.off : Int) = (x4.off : Int)) ∧ 
 (x3.prev = x4.prev) ∧ 
 (x.bb = x.bb) ∧ 
 (x.sb = x.sb ∧ Off.lit 0 = Off.lit 0) ∧ 
 ((x3.pos : Int) = (x4.pos : Int)) ∧ 
 (x3.bv = x4.bv ∧ x3.bn = x4.bn) ∧ 
 ((512 : Nat) = (512 : Nat) ∧ x3.arr = x4.arr) ∧ 
 (True)) ∧
 (∀ x3 : (RV), (dry (RS.mk x2 x.rel x.rb x.sb x.bb x.vs (nats (ints x.bs)) x.big x1 (Int.toNat (x.off : Int)) (Int.toNat (x.bits : Int)) (Int.toNat (x.num : Int)) x.pk x.pkn x.dis (Int.toNat (x.fed : Int)) (Int.toNat (x.pos : Int)) x.bv x.bn x.arr x.prev) (Int.toNat (↑nb : Int)) x3) → 
 (x2 = x2) ∧ 
 ∀ x4 : (Nat), ∃ x5 : (RV × Nat), (lacks x nb x5.1) ∧ 
 (x4 = x5.2 ∧ Off.lit 0 = Off.lit 0) ∧ 
 (x.m = x.m) ∧ 
 (relLe x.rel x.rel) ∧ 
 (x.rb = x.rb) ∧ 
 ((x3.off : Int) = (x5.1.off : Int)) ∧ 
 (x.sb = x.sb ∧ Off.lit 0 = Off.lit 0) ∧ 
 (Value.nilIface = Value.nilIface) ∧ (x.bb = x.bb ∧ Off.lit 0 = Off.lit 0) ∧ 
 ((x3.bits : Int) = (x5.1.bits : Int)) ∧ 
 ((x3.num : Int) = (x5.1.num : Int)) ∧ 
 (x.big = x.big) ∧ 
 (x3.pk = x5.1.pk ∧ x3.pkn = x5.1.pkn) ∧ 
 (x3.dis = x5.1.dis) ∧ 
 ((x3.fed : Int) = (x5.1.fed : Int)) ∧ 
 (Value.pointer none = Value.pointer none) ∧ (x.bb = x.bb ∧ Off.lit 0 = Off.lit 0) ∧ 
 (Value.pointer none = Value.pointer none) ∧ (x.sb = x.sb) ∧ 
 (x.vs = x.vs ∧ ints (nats (ints x.bs)) = ints x.bs) ∧ 
 ((x3.off : Int) = (x5.1.off : Int)) ∧ 
 (x3.prev = x5.1.prev) ∧ 
 (x.bb = x.bb) ∧ 
 (x.sb = x.sb ∧ Off.lit 0 = Off.lit 0) ∧ 
 ((x3.pos : Int) = (x5.1.pos : Int)) ∧ 
 (x3.bv = x5.1.bv ∧ x3.bn = x5.1.bn) ∧ 
 ((512 : Nat) = (512 : Nat) ∧ x3.arr = x5.1.arr) ∧ 
 (x4 = x5.2) ∧ 
 (errV (Gl.U G) = errV (Gl.U G)) ∧ (True))
noncomputable def law_c103 (G : Gl) (P : Nat) (x : RS) (nb : Nat) : VCT := fnx (CH G 4) (INH G 4 (b103 G) NA) noAnn Tryz.f103 ((c103 G P).args (x, nb)) ((c103 G P).H (x, nb)) (outK true 5 ((c103 G P).ret (x, nb))) ((c103 G P).pan (x, nb))
theorem eq_c103 (G : Gl) (P : Nat) (x : RS) (nb : Nat) : cond_c103 G P x nb = (law_c103 G P x nb).den := by kernel_rfl
def cond_c107 (G : Gl) (P : Nat) (x : RS) : Prop :=
 (x.rb = x.rb) ∧ ((8 : Int) ≠ (0 : Int)) ∧ 
 (x.rb = x.rb) ∧ ((0 : Int) ≤ Int.tmod (x.num : Int) (8 : Int)) ∧ 
 (x.rb = x.rb) ∧ ((0 : Int) ≤ Int.tmod (x.num : Int) (8 : Int)) ∧ 
 (x.rb = x.rb) ∧ (x.rb = x.rb) ∧ (x.rb = x.rb) ∧ ∃ x1 : (RV), (took x (((8 : Nat) * List.length x.bs - RS.P x) % (8 : Nat)) x1) ∧ 
 (bitI BinOp.and IntKind.u64 (x.bits : Int) (IntKind.wrap IntKind.u64 (shlI IntKind.u64 (1 : Int) (Int.tmod (x.num : Int) (8 : Int)) - (1 : Int))) = (↑(RS.W x % (2 : Nat) ^ (((8 : Nat) * List.length x.bs - RS.P x) % (8 : Nat))) : Int)) ∧ 
 (x.m = x.m) ∧ 
 (relLe x.rel x.rel) ∧ 
 (x.rb = x.rb) ∧ 
 ((x.off : Int) = (x1.off : Int)) ∧ 
 (x.sb = x.sb ∧ Off.lit 0 = Off.lit 0) ∧ 
 (Value.nilIface = Value.nilIface) ∧ (x.bb = x.bb ∧ Off.lit 0 = Off.lit 0) ∧ 
 (shrI IntKind.u64 (x.bits : Int) (Int.tmod (x.num : Int) (8 : Int)) = (x1.bits : Int)) ∧ 
 (IntKind.wrap IntKind.u64 ((x.num : Int) - Int.tmod (x.num : Int) (8 : Int)) = (x1.num : Int)) ∧ 
 (x.big = x.big) ∧ 
 (x.pk = x1.pk ∧ x.pkn = x1.pkn) ∧ 
 (x.dis = x1.dis) ∧ 
 ((x.fed : Int) = (x1.fed : Int)) ∧ 
 (Value.pointer none = Value.pointer none) ∧ (x.bb = x.bb ∧ Off.lit 0 = Off.lit 0) ∧ 
 (Value.pointer none = Value.pointer none) ∧ (x.sb = x.sb) ∧ 
 (x.vs = x.vs ∧ ints x.bs = ints x.bs) ∧ 
 ((x.off : Int) = (x1.off : Int)) ∧ 
 (x.prev = x1.prev) ∧ 
 (x.bb = x.bb) ∧ 
 (x.sb = x.sb ∧ Off.lit 0 = Off.lit 0) ∧ 
 ((x.pos : Int) = (x1.pos : Int)) ∧ 
 (x.bv = x1.bv ∧ x.bn = x1.bn) ∧ 
 ((512 : Nat) = (512 : Nat) ∧ x.arr = x1.arr) ∧ 
 (True)
noncomputable def law_c107 (G : Gl) (P : Nat) (x : RS) : VCT := fnx (CH G 4) (INH G 4 no NA) noAnn Tryz.f107 ((c107 P).args x) ((c107 P).H x) (outK true 5 ((c107 P).ret x)) ((c107 P).pan x)
theorem eq_c107 (G : Gl) (P : Nat) (x : RS) : cond_c107 G P x = (law_c107 G P x).den := by kernel_rfl
def cond_c109 (G : Gl) (P : Nat) (x : RS) : Prop :=
 (x.rb = x.rb) ∧ (inI64 ((8 : Int) * (x.off : Int))) ∧ 
 (x.rb = x.rb) ∧ (inI64 (x.num : Int)) ∧ 
 (inI64 ((8 : Int) * (x.off : Int) - (x.num : Int))) ∧ 
 (x.rb = x.rb) ∧ (x.rb = x.rb) ∧ (x.rb = x.rb) ∧ (x.rb = x.rb) ∧ (inI64 (IntKind.wrap IntKind.u64 ((x.fed : Int) - (x.num : Int)))) ∧ 
 (inI64 (x.dis + IntKind.wrap IntKind.u64 ((x.fed : Int) - (x.num : Int)))) ∧ 
 (x.rb = x.rb) ∧ (inI64 ((8 : Int) * (x.off : Int))) ∧ 
 (inI64 ((8 : Int) * (x.off : Int) + (x.dis + IntKind.wrap IntKind.u64 ((x.fed : Int) - (x.num : Int))))) ∧ 
 ∃ x1 : (Unit), (True) ∧ 
 ((8 : Int) * (x.off : Int) + (x.dis + IntKind.wrap IntKind.u64 ((x.fed : Int) - (x.num : Int))) = (↑(RS.P x) : Int)) ∧ 
 (x.m = x.m) ∧ (relLe x.rel x.rel) ∧ 
 (x.rb = x.rb) ∧ ((x.off : Int) = (x.off : Int)) ∧ (x.sb = x.sb ∧ Off.lit 0 = Off.lit 0) ∧ 
 (Value.nilIface = Value.nilIface) ∧ (x.bb = x.bb ∧ Off.lit 0 = Off.lit 0) ∧ 
 ((x.bits : Int) = (x.bits : Int)) ∧ ((x.num : Int) = (x.num : Int)) ∧ (x.big = x.big) ∧ (x.pk = x.pk ∧ x.pkn = x.pkn) ∧ 
 (x.dis = x.dis) ∧ ((x.fed : Int) = (x.fed : Int)) ∧ (Value.pointer none = Value.pointer none) ∧ (x.bb = x.bb ∧ Off.lit 0 = Off.lit 0) ∧ 
 (Value.pointer none = Value.pointer none) ∧ (x.sb = x.sb) ∧ (x.vs = x.vs ∧ ints x.bs = ints x.bs) ∧ 
 ((x.off : Int) = (x.off : Int)) ∧ (x.prev = x.prev) ∧ (x.bb = x.bb) ∧ (x.sb = x.sb ∧ Off.lit 0 = Off.lit 0) ∧ 
 ((x.pos : Int) = (x.pos : Int)) ∧ (x.bv = x.bv ∧ x.bn = x.bn) ∧ 
 ((512 : Nat) = (512 : Nat) ∧ x.arr = x.arr) ∧ 
 (True)
noncomputable def law_c109 (G : Gl) (P : Nat) (x : RS) : VCT := fnx (CH G 4) (INH G 4 no NA) noAnn Tryz.f109 ((c109 P).args x) ((c109 P).H x) (outK true 5 ((c109 P).ret x)) ((c109 P).pan x)
theorem eq_c109 (G : Gl) (P : Nat) (x : RS) : cond_c109 G P x = (law_c109 G P x).den := by kernel_rfl
theorem ok_c103 (G : Gl) (P : Nat) (x : RS) (nb : Nat) (hx : rsOK x) (hn : nb ≤ 56) : cond_c103 G P x nb := by
  unfold cond_c103
  have e3 : ∀ l : List Nat, nats (ints l) = l := nats_ints
  simp only [e3, rel_self, true_and, and_true, Int.toNat_natCast]
  refine ⟨x.P, fun m => ⟨⟨rs_m hx rfl, hn⟩, fun v hv => ⟨by omega, by omega, { v with bits := v.bits / 2 ^ nb, num := v.num - nb }, ?_, ?_, rfl, ?_, ?_, ⟨rfl, rfl⟩, rfl, rfl, rfl, rfl, rfl, ⟨rfl, rfl⟩, rfl⟩, fun v hv b => ⟨(v, b), ⟨rs_m hv.ok rfl, ?_⟩, rfl, rfl, rfl, rfl, ⟨rfl, rfl⟩, rfl, rfl, rfl, rfl, rfl, ⟨rfl, rfl⟩, rfl, rfl⟩⟩⟩
  · exact rs_take (x := x) (v := v) (rs_m hv.ok rfl) hv.num
  · have hbk : bkOK x.W v.bits v.num := hv.ok.l.bk
    rw [mask hbk.lt hn, bk_val hbk hv.num]
  · rw [shrN, show min nb IntKind.u64.bits = nb by simp only [IntKind.bits]; omega]
  · have h1 : v.num ≤ 64 := hv.ok.l.bk.n
    have h2 := hv.num
    rw [wr64]; dsimp only; omega
  · have h1 : x.P + v.num = 8 * x.bs.length := hv.all
    have h2 := hv.num
    omega
theorem ok_c107 (G : Gl) (P : Nat) (x : RS) (hx : rsOK x) : cond_c107 G P x := by
  unfold cond_c107
  have h64 : x.num ≤ 64 := hx.l.bk.n
  have al := hx.l.al
  have en := hx.l.end_
  have em : (8 * x.bs.length - x.P) % 8 = x.num % 8 := by omega
  have t1 : Int.tmod (x.num : Int) 8 = ((x.num % 8 : Nat) : Int) := by rw [Int.tmod_eq_emod_of_nonneg (by omega)]; omega
  simp only [t1, rel_self, true_and, and_true, em]
  have key := rs_take (x := x) (v := ⟨x.off, x.bits, x.num, x.pk, x.pkn, x.dis, x.fed, x.pos, x.bv, x.bn, x.arr, x.prev⟩) (n := x.num % 8) (rs_m hx rfl) (by dsimp only; omega)
  refine ⟨by decide, by omega, by omega, _, key, ?_, rfl, ?_, ?_, ⟨rfl, rfl⟩, rfl, rfl, rfl, rfl, rfl, ⟨rfl, rfl⟩, rfl⟩
  · have hbk := hx.l.bk
    rw [mask hbk.lt (by omega), bk_val hbk (by omega)]
  · rw [shrN, show min (x.num % 8) IntKind.u64.bits = x.num % 8 by simp only [IntKind.bits]; omega]
  · rw [wr64]; dsimp only; omega
theorem ok_c109 (G : Gl) (P : Nat) (x : RS) (hx : rsW x) : cond_c109 G P x := by
  unfold cond_c109
  have h64 : x.num ≤ 64 := hx.n
  have hf := hx.fed
  have hd := hx.dis
  have hl := hx.len
  have en := hx.end_
  have ho := hx.off
  have e1 : IntKind.u64.wrap ((x.fed : Int) - (x.num : Int)) = (x.fed : Int) - (x.num : Int) := by rw [wr64]; omega
  simp only [e1, rel_self, true_and, and_true, inI64]
  exact ⟨by omega, by omega, by omega, by omega, by omega, by omega, by omega, (), by omega⟩
theorem b103_ok (G : Gl) : ∀ f pt, b103 G f = some pt → SpecOK (CC G) f pt := by
  intro f pt h
  unfold b103 at h
  split at h
  · cases h; exact exPT_ok 0 fun P => loc_ok (s143 G P) _
  · cases h
theorem s103 (G : Gl) (P : Nat) : SpecOK (CC G) 103 (c103 G P).pt := specH G 4 (b103_ok G) (fn := Tryz.f103) rfl NA (c103 G P) (fun _ => noAnn) fun ⟨x, nb⟩ h => Met.of (eq_c103 G P x nb) (ok_c103 G P x nb h.1 h.2)
theorem s107 (G : Gl) (P : Nat) : SpecOK (CC G) 107 (c107 P).pt := specH G 4 (no_ok G) (fn := Tryz.f107) rfl NA (c107 P) (fun _ => noAnn) fun x h => Met.of (eq_c107 G P x) (ok_c107 G P x h)
theorem s109 (G : Gl) (P : Nat) : SpecOK (CC G) 109 (c109 P).pt := specH G 4 (no_ok G) (fn := Tryz.f109) rfl NA (c109 P) (fun _ => noAnn) fun x h => Met.of (eq_c109 G P x) (ok_c109 G P x h)
end Pc
/-
  ReadSymbol does what its contract says.
-/
set_option linter.unusedVariables false
set_option maxRecDepth 100000
open Go Go.Vg Go.Proofs
namespace Pc
def cond_c105 (G : Gl) (P : Nat) (lens : List Nat) (x : RS) (d : DC) : Prop :=
 (DC.db d = DC.db d) ∧ Br ((↑(List.length (ints (DC.ch d))) : Int) == (0 : Int))
 (∀ x1 : (Nat), ∃ x2 : (RV × Nat), (lacks x (cl lens (RS.W x)) x2.1) ∧ 
 (x1 = x2.2 ∧ Off.lit 0 = Off.lit 0) ∧ 
 (x.m = x.m) ∧ 
 (relLe x.rel x.rel) ∧ 
 (x.rb = x.rb) ∧ 
 ((x.off : Int) = (x2.1.off : Int)) ∧ 
 (x.sb = x.sb ∧ Off.lit 0 = Off.lit 0) ∧ 
 (Value.nilIface = Value.nilIface) ∧ (x.bb = x.bb ∧ Off.lit 0 = Off.lit 0) ∧ 
 ((x.bits : Int) = (x2.1.bits : Int)) ∧ 
 ((x.num : Int) = (x2.1.num : Int)) ∧ 
 (x.big = x.big) ∧ 
 (x.pk = x2.1.pk ∧ x.pkn = x2.1.pkn) ∧ 
 (x.dis = x2.1.dis) ∧ 
 ((x.fed : Int) = (x2.1.fed : Int)) ∧ 
 (Value.pointer none = Value.pointer none) ∧ (x.bb = x.bb ∧ Off.lit 0 = Off.lit 0) ∧ 
 (Value.pointer none = Value.pointer none) ∧ (x.sb = x.sb) ∧ 
 (x.vs = x.vs ∧ ints x.bs = ints x.bs) ∧ 
 ((x.off : Int) = (x2.1.off : Int)) ∧ 
 (x.prev = x2.1.prev) ∧ 
 (x.bb = x.bb) ∧ 
 (x.sb = x.sb ∧ Off.lit 0 = Off.lit 0) ∧ 
 ((x.pos : Int) = (x2.1.pos : Int)) ∧ 
 (x.bv = x2.1.bv ∧ x.bn = x2.1.bn) ∧ 
 ((512 : Nat) = (512 : Nat) ∧ x.arr = x2.1.arr) ∧ 
 (DC.db d = DC.db d) ∧ (DC.cv d = DC.cv d ∧ ints (DC.ch d) = ints (DC.ch d)) ∧ 
 (DC.lv d = DC.lv d ∧ DC.lk d = DC.lk d) ∧ 
 ((↑(DC.cm d) : Int) = (↑(DC.cm d) : Int)) ∧ ((↑(DC.lm d) : Int) = (↑(DC.lm d) : Int)) ∧ ((↑(DC.cb d) : Int) = (↑(DC.cb d) : Int)) ∧ ((↑(DC.mb d) : Int) = (↑(DC.mb d) : Int)) ∧ ((↑(DC.ns d) : Int) = (↑(DC.ns d) : Int)) ∧ (x1 = x2.2) ∧ 
 False /- "match: values of two makes" -/)
 ((DC.db d = DC.db d) ∧ ∃ x1 : (RV × Nat), (rsOK (x.put x1.1) ∧ (1 : Nat) ≤ x1.2 ∧ x1.2 ≤ cl lens (RS.W x)) ∧ 
 (IntKind.wrap IntKind.u64 (↑(DC.mb d) : Int) = (x1.2 : Int)) ∧ 
 (x.m = x.m) ∧ (relLe x.rel x.rel) ∧ 
 (x.rb = x.rb) ∧ 
 ((x.off : Int) = (x1.1.off : Int)) ∧ 
 (x.sb = x.sb ∧ Off.lit 0 = Off.lit 0) ∧ 
 (Value.nilIface = Value.nilIface) ∧ (x.bb = x.bb ∧ Off.lit 0 = Off.lit 0) ∧ 
 ((x.bits : Int) = (x1.1.bits : Int)) ∧ 
 ((x.num : Int) = (x1.1.num : Int)) ∧ 
 (x.big = x.big) ∧ 
 (x.pk = x1.1.pk ∧ x.pkn = x1.1.pkn) ∧ 
 (x.dis = x1.1.dis) ∧ 
 ((x.fed : Int) = (x1.1.fed : Int)) ∧ 
 (Value.pointer none = Value.pointer none) ∧ (x.bb = x.bb ∧ Off.lit 0 = Off.lit 0) ∧ 
 (Value.pointer none = Value.pointer none) ∧ (x.sb = x.sb) ∧ 
 (x.vs = x.vs ∧ ints x.bs = ints x.bs) ∧ 
 ((x.off : Int) = (x1.1.off : Int)) ∧ 
 (x.prev = x1.1.prev) ∧ 
 (x.bb = x.bb) ∧ 
 (x.sb = x.sb ∧ Off.lit 0 = Off.lit 0) ∧ 
 ((x.pos : Int) = (x1.1.pos : Int)) ∧ 
 (x.bv = x1.1.bv ∧ x.bn = x1.1.bn) ∧ 
 ((512 : Nat) = (512 : Nat) ∧ x.arr = x1.1.arr) ∧ 
 (DC.db d = DC.db d) ∧ (DC.cv d = DC.cv d ∧ ints (DC.ch d) = ints (DC.ch d)) ∧ 
 (DC.lv d = DC.lv d ∧ DC.lk d = DC.lk d) ∧ 
 ((↑(DC.cm d) : Int) = (↑(DC.cm d) : Int)) ∧ ((↑(DC.lm d) : Int) = (↑(DC.lm d) : Int)) ∧ ((↑(DC.cb d) : Int) = (↑(DC.cb d) : Int)) ∧ ((↑(DC.mb d) : Int) = (↑(DC.mb d) : Int)) ∧ ((↑(DC.ns d) : Int) = (↑(DC.ns d) : Int)) ∧ ∀ x2 : (RV × Nat), ((rsOK (x.put x2.1) ∧ (1 : Nat) ≤ x2.2 ∧ x2.2 ≤ cl lens (RS.W x)) → 
 ∃ x3 : (Nat), ∀ x4 : (Nat → Option Obj), (rsOK (RS.mk x4 x.rel x.rb x.sb x.bb x.vs (nats (ints x.bs)) x.big x3 (Int.toNat (x2.1.off : Int)) (Int.toNat (x2.1.bits : Int)) (Int.toNat (x2.1.num : Int)) x2.1.pk x2.1.pkn x2.1.dis (Int.toNat (x2.1.fed : Int)) (Int.toNat (x2.1.pos : Int)) x2.1.bv x2.1.bn x2.1.arr x2.1.prev) ∧ Int.toNat (x2.2 : Int) ≤ (56 : Nat)) ∧ 
 (x.rb = x.rb ∧ Off.lit 0 = Off.lit 0) ∧ 
 ((x2.2 : Int) = (↑(Int.toNat (x2.2 : Int)) : Int)) ∧ 
 (x4 = x4) ∧ 
 (relLe x.rel x.rel) ∧ 
 (x.rb = x.rb) ∧ 
 ((x2.1.off : Int) = (↑(Int.toNat (x2.1.off : Int)) : Int)) ∧ 
 (x.sb = x.sb ∧ Off.lit 0 = Off.lit 0) ∧ 
 (Value.nilIface = Value.nilIface) ∧ (x.bb = x.bb ∧ Off.lit 0 = Off.lit 0) ∧ 
 ((x2.1.bits : Int) = (↑(Int.toNat (x2.1.bits : Int)) : Int)) ∧ 
 ((x2.1.num : Int) = (↑(Int.toNat (x2.1.num : Int)) : Int)) ∧ 
 (x.big = x.big) ∧ 
 (x2.1.pk = x2.1.pk ∧ x2.1.pkn = x2.1.pkn) ∧ 
 (x2.1.dis = x2.1.dis) ∧ 
 ((x2.1.fed : Int) = (↑(Int.toNat (x2.1.fed : Int)) : Int)) ∧ 
 (Value.pointer none = Value.pointer none) ∧ (x.bb = x.bb ∧ Off.lit 0 = Off.lit 0) ∧ 
 (Value.pointer none = Value.pointer none) ∧ (x.sb = x.sb) ∧ 
 (x.vs = x.vs ∧ ints x.bs = ints (nats (ints x.bs))) ∧ 
 ((x2.1.off : Int) = (↑(Int.toNat (x2.1.off : Int)) : Int)) ∧ 
 (x2.1.prev = x2.1.prev) ∧ 
 (x.bb = x.bb) ∧ 
 (x.sb = x.sb ∧ Off.lit 0 = Off.lit 0) ∧ 
 ((x2.1.pos : Int) = (↑(Int.toNat (x2.1.pos : Int)) : Int)) ∧ 
 (x2.1.bv = x2.1.bv ∧ x2.1.bn = x2.1.bn) ∧ 
 ((512 : Nat) = (512 : Nat) ∧ x2.1.arr = x2.1.arr) ∧ 
 (∀ x5 : (RV), ((pulled (RS.mk x4 x.rel x.rb x.sb x.bb x.vs (nats (ints x.bs)) x.big x3 (Int.toNat (x2.1.off : Int)) (Int.toNat (x2.1.bits : Int)) (Int.toNat (x2.1.num : Int)) x2.1.pk x2.1.pkn x2.1.dis (Int.toNat (x2.1.fed : Int)) (Int.toNat (x2.1.pos : Int)) x2.1.bv x2.1.bn x2.1.arr x2.1.prev) (Int.toNat (x2.2 : Int)) x5) → 
 (x4 = x4) ∧ 
 (DC.db d = DC.db d) ∧ (x.rb = x.rb) ∧ 
 (DC.db d = DC.db d) ∧ (inRange (bitI BinOp.and IntKind.u32 (IntKind.wrap IntKind.u32 (x5.bits : Int)) (↑(DC.cm d) : Int)) (List.length (ints (DC.ch d)))) ∧ 
 (Int.toNat (bitI BinOp.and IntKind.u32 (IntKind.wrap IntKind.u32 (x5.bits : Int)) (↑(DC.cm d) : Int)) < List.length (ints (DC.ch d))) ∧ 
 ∀ x6 : (Int), (((ints (DC.ch d))[Int.toNat (bitI BinOp.and IntKind.u32 (IntKind.wrap IntKind.u32 (x5.bits : Int)) (↑(DC.cm d) : Int))]? = some x6) → 
 (DC.db d = DC.db d) ∧ Br (decide (IntKind.wrap IntKind.u64 (bitI BinOp.and IntKind.u32 x6 (31 : Int)) > IntKind.wrap IntKind.u64 (↑(DC.cb d) : Int)))
 (((0 : Int) ≤ (5 : Int)) ∧ 
 (DC.db d = DC.db d) ∧ (inRange (shrI IntKind.u32 x6 (5 : Int)) (List.length (DC.lk d))) ∧ 
 (Int.toNat (shrI IntKind.u32 x6 (5 : Int)) < List.length (DC.lk d)) ∧ 
 ∀ x7 : (Sl), (((DC.lk d)[Int.toNat (shrI IntKind.u32 x6 (5 : Int))]? = some x7) → 
 (x.rb = x.rb) ∧ 
 (DC.db d = DC.db d) ∧ ((0 : Int) ≤ (↑(DC.cb d) : Int)) ∧ 
 (DC.db d = DC.db d) ∧ ∃ x8 : (List (Tys.El TT 43)), (isRo x.rel 43 (Value.slice (Sl.A x7) x7.n x7.cap) x8) ∧ 
 ((x7.n = List.length x8) → 
 (inRange (bitI BinOp.and IntKind.u32 (IntKind.wrap IntKind.u32 (shrI IntKind.u64 (x5.bits : Int) (↑(DC.cb d) : Int))) (↑(DC.lm d) : Int)) (List.length x8)) ∧ 
 (Int.toNat (bitI BinOp.and IntKind.u32 (IntKind.wrap IntKind.u32 (shrI IntKind.u64 (x5.bits : Int) (↑(DC.cb d) : Int))) (↑(DC.lm d) : Int)) < List.length x8) ∧ 
 ∀ x9 : (Int), ((x8[Int.toNat (bitI BinOp.and IntKind.u32 (IntKind.wrap IntKind.u32 (shrI IntKind.u64 (x5.bits : Int) (↑(DC.cb d) : Int))) (↑(DC.lm d) : Int))]? = some x9) → 
 (x.rb = x.rb) ∧ 
 Br (decide (IntKind.wrap IntKind.u64 (bitI BinOp.and IntKind.u32 x9 (31 : Int)) ≤ (x5.num : Int)))
 ((x.rb = x.rb) ∧ 
 ((0 : Int) ≤ IntKind.wrap IntKind.u64 (bitI BinOp.and IntKind.u32 x9 (31 : Int))) ∧ 
 (x.rb = x.rb) ∧ 
 (x.rb = x.rb) ∧ 
 (x.rb = x.rb) ∧ 
 ((0 : Int) ≤ (5 : Int)) ∧ 
 ∃ x10 : (RV), (took x (cl lens (RS.W x)) x10) ∧ 
 (IntKind.wrap IntKind.u64 (shrI IntKind.u32 x9 (5 : Int)) = (↑(cd lens (RS.W x)) : Int)) ∧ 
 (x.m = x.m) ∧ 
 (relLe x.rel x.rel) ∧ 
 (x.rb = x.rb) ∧ 
 ((x5.off : Int) = (x10.off : Int)) ∧ 
 (x.sb = x.sb ∧ Off.lit 0 = Off.lit 0) ∧ 
 (Value.nilIface = Value.nilIface) ∧ (x.bb = x.bb ∧ Off.lit 0 = Off.lit 0) ∧ 
 (shrI IntKind.u64 (x5.bits : Int) (IntKind.wrap IntKind.u64 (bitI BinOp.and IntKind.u32 x9 (31 : Int))) = (x10.bits : Int)) ∧ 
 (IntKind.wrap IntKind.u64 ((x5.num : Int) - IntKind.wrap IntKind.u64 (bitI BinOp.and IntKind.u32 x9 (31 : Int))) = (x10.num : Int)) ∧ 
 (x.big = x.big) ∧ 
 (x5.pk = x10.pk ∧ x5.pkn = x10.pkn) ∧ 
 (x5.dis = x10.dis) ∧ 
 ((x5.fed : Int) = (x10.fed : Int)) ∧ 
 (Value.pointer none = Value.pointer none) ∧ (x.bb = x.bb ∧ Off.lit 0 = Off.lit 0) ∧ 
 (Value.pointer none = Value.pointer none) ∧ (x.sb = x.sb) ∧ 
 (x.vs = x.vs ∧ ints (nats (ints x.bs)) = ints x.bs) ∧ 
 ((x5.off : Int) = (x10.off : Int)) ∧ 
 (x5.prev = x10.prev) ∧ 
 (x.bb = x.bb) ∧ 
 (x.sb = x.sb ∧ Off.lit 0 = Off.lit 0) ∧ 
 ((x5.pos : Int) = (x10.pos : Int)) ∧ 
 (x5.bv = x10.bv ∧ x5.bn = x10.bn) ∧ 
 ((512 : Nat) = (512 : Nat) ∧ x5.arr = x10.arr) ∧ 
 (DC.db d = DC.db d) ∧ (DC.cv d = DC.cv d ∧ ints (DC.ch d) = ints (DC.ch d)) ∧ 
 (DC.lv d = DC.lv d ∧ DC.lk d = DC.lk d) ∧ 
 ((↑(DC.cm d) : Int) = (↑(DC.cm d) : Int)) ∧ ((↑(DC.lm d) : Int) = (↑(DC.lm d) : Int)) ∧ ((↑(DC.cb d) : Int) = (↑(DC.cb d) : Int)) ∧ ((↑(DC.mb d) : Int) = (↑(DC.mb d) : Int)) ∧ ((↑(DC.ns d) : Int) = (↑(DC.ns d) : Int)) ∧ (True))
 (∃ x10 : (RV × Nat), ((rsOK (x.put x10.1) ∧ (1 : Nat) ≤ x10.2 ∧ x10.2 ≤ cl lens (RS.W x)) ∧ (21 : Nat) - x10.2 < (21 : Nat) - x2.2) ∧ 
 (IntKind.wrap IntKind.u64 (bitI BinOp.and IntKind.u32 x9 (31 : Int)) = (x10.2 : Int)) ∧ 
 (x.m = x.m) ∧ (relLe x.rel x.rel) ∧ 
 (x.rb = x.rb) ∧ 
 ((x5.off : Int) = (x10.1.off : Int)) ∧ 
 (x.sb = x.sb ∧ Off.lit 0 = Off.lit 0) ∧ 
 (Value.nilIface = Value.nilIface) ∧ (x.bb = x.bb ∧ Off.lit 0 = Off.lit 0) ∧ 
 ((x5.bits : Int) = (x10.1.bits : Int)) ∧ 
 ((x5.num : Int) = (x10.1.num : Int)) ∧ 
 (x.big = x.big) ∧ 
 (x5.pk = x10.1.pk ∧ x5.pkn = x10.1.pkn) ∧ 
 (x5.dis = x10.1.dis) ∧ 
 ((x5.fed : Int) = (x10.1.fed : Int)) ∧ 
 (Value.pointer none = Value.pointer none) ∧ (x.bb = x.bb ∧ Off.lit 0 = Off.lit 0) ∧ 
 (Value.pointer none = Value.pointer none) ∧ (x.sb = x.sb) ∧ 
 (x.vs = x.vs ∧ ints (nats (ints x.bs)) = ints x.bs) ∧ 
 ((x5.off : Int) = (x10.1.off : Int)) ∧ 
 (x5.prev = x10.1.prev) ∧ 
 (x.bb = x.bb) ∧ 
 (x.sb = x.sb ∧ Off.lit 0 = Off.lit 0) ∧ 
 ((x5.pos : Int) = (x10.1.pos : Int)) ∧ 
 (x5.bv = x10.1.bv ∧ x5.bn = x10.1.bn) ∧ 
 ((512 : Nat) = (512 : Nat) ∧ x5.arr = x10.1.arr) ∧ 
 (DC.db d = DC.db d) ∧ (DC.cv d = DC.cv d ∧ ints (DC.ch d) = ints (DC.ch d)) ∧ 
 (DC.lv d = DC.lv d ∧ DC.lk d = DC.lk d) ∧ 
 ((↑(DC.cm d) : Int) = (↑(DC.cm d) : Int)) ∧ ((↑(DC.lm d) : Int) = (↑(DC.lm d) : Int)) ∧ ((↑(DC.cb d) : Int) = (↑(DC.cb d) : Int)) ∧ ((↑(DC.mb d) : Int) = (↑(DC.mb d) : Int)) ∧ ((↑(DC.ns d) : Int) = (↑(DC.ns d) : Int)) ∧ (True))))))
 ((x.rb = x.rb) ∧ 
 Br (decide (IntKind.wrap IntKind.u64 (bitI BinOp.and IntKind.u32 x6 (31 : Int)) ≤ (x5.num : Int)))
 ((x.rb = x.rb) ∧ 
 ((0 : Int) ≤ IntKind.wrap IntKind.u64 (bitI BinOp.and IntKind.u32 x6 (31 : Int))) ∧ 
 (x.rb = x.rb) ∧ 
 (x.rb = x.rb) ∧ 
 (x.rb = x.rb) ∧ 
 ((0 : Int) ≤ (5 : Int)) ∧ 
 ∃ x7 : (RV), (took x (cl lens (RS.W x)) x7) ∧ 
 (IntKind.wrap IntKind.u64 (shrI IntKind.u32 x6 (5 : Int)) = (↑(cd lens (RS.W x)) : Int)) ∧ 
 (x.m = x.m) ∧ 
 (relLe x.rel x.rel) ∧ 
 (x.rb = x.rb) ∧ 
 ((x5.off : Int) = (x7.off : Int)) ∧ 
 (x.sb = x.sb ∧ Off.lit 0 = Off.lit 0) ∧ 
 (Value.nilIface = Value.nilIface) ∧ (x.bb = x.bb ∧ Off.lit 0 = Off.lit 0) ∧ 
 (shrI IntKind.u64 (x5.bits : Int) (IntKind.wrap IntKind.u64 (bitI BinOp.and IntKind.u32 x6 (31 : Int))) = (x7.bits : Int)) ∧ 
 (IntKind.wrap IntKind.u64 ((x5.num : Int) - IntKind.wrap IntKind.u64 (bitI BinOp.and IntKind.u32 x6 (31 : Int))) = (x7.num : Int)) ∧ 
 (x.big = x.big) ∧ 
 (x5.pk = x7.pk ∧ x5.pkn = x7.pkn) ∧ 
 (x5.dis = x7.dis) ∧ 
 ((x5.fed : Int) = (x7.fed : Int)) ∧ 
 (Value.pointer none = Value.pointer none) ∧ (x.bb = x.bb ∧ Off.lit 0 = Off.lit 0) ∧ 
 (Value.pointer none = Value.pointer none) ∧ (x.sb = x.sb) ∧ 
 (x.vs = x.vs ∧ ints (nats (ints x.bs)) = ints x.bs) ∧ 
 ((x5.off : Int) = (x7.off : Int)) ∧ 
 (x5.prev = x7.prev) ∧ 
 (x.bb = x.bb) ∧ 
 (x.sb = x.sb ∧ Off.lit 0 = Off.lit 0) ∧ 
 ((x5.pos : Int) = (x7.pos : Int)) ∧ 
 (x5.bv = x7.bv ∧ x5.bn = x7.bn) ∧ 
 ((512 : Nat) = (512 : Nat) ∧ x5.arr = x7.arr) ∧ 
 (DC.db d = DC.db d) ∧ (DC.cv d = DC.cv d ∧ ints (DC.ch d) = ints (DC.ch d)) ∧ 
 (DC.lv d = DC.lv d ∧ DC.lk d = DC.lk d) ∧ 
 ((↑(DC.cm d) : Int) = (↑(DC.cm d) : Int)) ∧ ((↑(DC.lm d) : Int) = (↑(DC.lm d) : Int)) ∧ ((↑(DC.cb d) : Int) = (↑(DC.cb d) : Int)) ∧ ((↑(DC.mb d) : Int) = (↑(DC.mb d) : Int)) ∧ ((↑(DC.ns d) : Int) = (↑(DC.ns d) : Int)) ∧ (True))
 (∃ x7 : (RV × Nat), ((rsOK (x.put x7.1) ∧ (1 : Nat) ≤ x7.2 ∧ x7.2 ≤ cl lens (RS.W x)) ∧ (21 : Nat) - x7.2 < (21 : Nat) - x2.2) ∧ 
 (IntKind.wrap IntKind.u64 (bitI BinOp.and IntKind.u32 x6 (31 : Int)) = (x7.2 : Int)) ∧ 
 (x.m = x.m) ∧ (relLe x.rel x.rel) ∧ 
 (x.rb = x.rb) ∧ 
 ((x5.off : Int) = (x7.1.off : Int)) ∧ 
 (x.sb = x.sb ∧ Off.lit 0 = Off.lit 0) ∧ 
 (Value.nilIface = Value.nilIface) ∧ (x.bb = x.bb ∧ Off.lit 0 = Off.lit 0) ∧ 
 ((x5.bits : Int) = (x7.1.bits : Int)) ∧ 
 ((x5.num : Int) = (x7.1.num : Int)) ∧ 
 (x.big = x.big) ∧ 
 (x5.pk = x7.1.pk ∧ x5.pkn = x7.1.pkn) ∧ 
 (x5.dis = x7.1.dis) ∧ 
 ((x5.fed : Int) = (x7.1.fed : Int)) ∧ 
 (Value.pointer none = Value.pointer none) ∧ (x.bb = x.bb ∧ Off.lit 0 = Off.lit 0) ∧ 
 (Value.pointer none = Value.pointer none) ∧ (x.sb = x.sb) ∧ 
 (x.vs = x.vs ∧ ints (nats (ints x.bs)) = ints x.bs) ∧ 
 ((x5.off : Int) = (x7.1.off : Int)) ∧ 
 (x5.prev = x7.1.prev) ∧ 
 (x.bb = x.bb) ∧ 
 (x.sb = x.sb ∧ Off.lit 0 = Off.lit 0) ∧ 
 ((x5.pos : Int) = (x7.1.pos : Int)) ∧ 
 (x5.bv = x7.1.bv ∧ x5.bn = x7.1.bn) ∧ 
 ((512 : Nat) = (512 : Nat) ∧ x5.arr = x7.1.arr) ∧ 
 (DC.db d = DC.db d) ∧ (DC.cv d = DC.cv d ∧ ints (DC.ch d) = ints (DC.ch d)) ∧ 
 (DC.lv d = DC.lv d ∧ DC.lk d = DC.lk d) ∧ 
 ((↑(DC.cm d) : Int) = (↑(DC.cm d) : Int)) ∧ ((↑(DC.lm d) : Int) = (↑(DC.lm d) : Int)) ∧ ((↑(DC.cb d) : Int) = (↑(DC.cb d) : Int)) ∧ ((↑(DC.mb d) : Int) = (↑(DC.mb d) : Int)) ∧ ((↑(DC.ns d) : Int) = (↑(DC.ns d) : Int)) ∧ (True)))))) ∧
 (∀ x5 : (RV), ((dry (RS.mk x4 x.rel x.rb x.sb x.bb x.vs (nats (ints x.bs)) x.big x3 (Int.toNat (x2.1.off : Int)) (Int.toNat (x2.1.bits : Int)) (Int.toNat (x2.1.num : Int)) x2.1.pk x2.1.pkn x2.1.dis (Int.toNat (x2.1.fed : Int)) (Int.toNat (x2.1.pos : Int)) x2.1.bv x2.1.bn x2.1.arr x2.1.prev) (Int.toNat (x2.2 : Int)) x5) → 
 (x4 = x4) ∧ 
 ∀ x6 : (Nat), ∃ x7 : (RV × Nat), (lacks x (cl lens (RS.W x)) x7.1) ∧ 
 (x6 = x7.2 ∧ Off.lit 0 = Off.lit 0) ∧ 
 (x.m = x.m) ∧ 
 (relLe x.rel x.rel) ∧ 
 (x.rb = x.rb) ∧ 
 ((x5.off : Int) = (x7.1.off : Int)) ∧ 
 (x.sb = x.sb ∧ Off.lit 0 = Off.lit 0) ∧ 
 (Value.nilIface = Value.nilIface) ∧ (x.bb = x.bb ∧ Off.lit 0 = Off.lit 0) ∧ 
 ((x5.bits : Int) = (x7.1.bits : Int)) ∧ 
 ((x5.num : Int) = (x7.1.num : Int)) ∧ 
 (x.big = x.big) ∧ 
 (x5.pk = x7.1.pk ∧ x5.pkn = x7.1.pkn) ∧ 
 (x5.dis = x7.1.dis) ∧ 
 ((x5.fed : Int) = (x7.1.fed : Int)) ∧ 
 (Value.pointer none = Value.pointer none) ∧ (x.bb = x.bb ∧ Off.lit 0 = Off.lit 0) ∧ 
 (Value.pointer none = Value.pointer none) ∧ (x.sb = x.sb) ∧ 
 (x.vs = x.vs ∧ ints (nats (ints x.bs)) = ints x.bs) ∧ 
 ((x5.off : Int) = (x7.1.off : Int)) ∧ 
 (x5.prev = x7.1.prev) ∧ 
 (x.bb = x.bb) ∧ 
 (x.sb = x.sb ∧ Off.lit 0 = Off.lit 0) ∧ 
 ((x5.pos : Int) = (x7.1.pos : Int)) ∧ 
 (x5.bv = x7.1.bv ∧ x5.bn = x7.1.bn) ∧ 
 ((512 : Nat) = (512 : Nat) ∧ x5.arr = x7.1.arr) ∧ 
 (DC.db d = DC.db d) ∧ (DC.cv d = DC.cv d ∧ ints (DC.ch d) = ints (DC.ch d)) ∧ 
 (DC.lv d = DC.lv d ∧ DC.lk d = DC.lk d) ∧ 
 ((↑(DC.cm d) : Int) = (↑(DC.cm d) : Int)) ∧ ((↑(DC.lm d) : Int) = (↑(DC.lm d) : Int)) ∧ ((↑(DC.cb d) : Int) = (↑(DC.cb d) : Int)) ∧ ((↑(DC.mb d) : Int) = (↑(DC.mb d) : Int)) ∧ ((↑(DC.ns d) : Int) = (↑(DC.ns d) : Int)) ∧ (x6 = x7.2) ∧ 
 (errV (Gl.U G) = errV (Gl.U G)) ∧ (True)))))
noncomputable def law_c105 (G : Gl) (P : Nat) (lens : List Nat) (x : RS) (d : DC) : VCT := fnx (CH G 4) (INH G 4 (b103 G) NA) (a105 x lens) Tryz.f105 ((c105 G P lens).args (x, d)) ((c105 G P lens).H (x, d)) (outK true 6 ((c105 G P lens).ret (x, d))) ((c105 G P lens).pan (x, d))
theorem eq_c105 (G : Gl) (P : Nat) (lens : List Nat) (x : RS) (d : DC) : cond_c105 G P lens x d = (law_c105 G P lens x d).den := by kernel_rfl
theorem low31 {k n : Nat} (hk : k < 100000000) (hn : n < 32) : bitI BinOp.and IntKind.u32 ((k * 32 + n : Nat) : Int) 31 = (n : Int) ∧ shrI IntKind.u32 ((k * 32 + n : Nat) : Int) 5 = (k : Int) := by
  constructor
  · rw [show (31 : Int) = ((31 : Nat) : Int) from rfl, andN rfl (by simp only [IntKind.bits]; omega) (by decide), show (31 : Nat) = 2 ^ 5 - 1 from rfl, Nat.and_two_pow_sub_one_eq_mod]
    omega
  · rw [show (5 : Int) = ((5 : Nat) : Int) from rfl, shrN, show min 5 IntKind.u32.bits = 5 from rfl]
    omega
theorem maskN {b n : Nat} (hn : n ≤ 16) : bitI BinOp.and IntKind.u32 (IntKind.u32.wrap (b : Int)) ((2 ^ n - 1 : Nat) : Int) = ((b % 2 ^ n : Nat) : Int) := by
  have h1 : (2 : Nat) ^ n ≤ 2 ^ 16 := Nat.pow_le_pow_right (by decide) hn
  rw [wrN rfl, andN rfl (Nat.mod_lt _ (by decide)) (by simp only [IntKind.bits]; omega), Nat.and_two_pow_sub_one_eq_mod]
  simp only [IntKind.bits]
  rw [Nat.mod_mod_of_dvd _ (Nat.pow_dvd_pow 2 (by omega))]
theorem ok_c105 (G : Gl) (P : Nat) (lens : List Nat) (x : RS) (d : DC) (hx : rsOK x) (hd : decOK x.rel lens d) : cond_c105 G P lens x d := by
  unfold cond_c105
  have e3 : ∀ l : List Nat, nats (ints l) = l := nats_ints
  have hg := hd.good
  have hcl := cl_pos hg x.W
  have hmb := hd.mb
  have hmbW := hmb.2 x.W
  have hcb := hd.cb
  have hlen := hd.len
  have hpow : 0 < 2 ^ d.cb := Nat.pow_pos (by decide)
  have hpow9 : 2 ^ d.cb ≤ 2 ^ 9 := Nat.pow_le_pow_right (by decide) hcb.2
  have e1 : IntKind.u64.wrap (d.mb : Int) = (d.mb : Int) := by rw [wr64]; omega
  have e2 : IntKind.u64.wrap (d.cb : Int) = (d.cb : Int) := by rw [wr64]; omega
  have hcm : (d.cm : Int) = ((2 ^ d.cb - 1 : Nat) : Int) := by rw [hd.cm]
  simp only [e1, e2, e3, hcm, br_d, br_i, rel_self, true_and, and_true, inRange, Int.toNat_natCast, ints_len]
  refine ⟨fun h => by omega, fun _ => ⟨(⟨x.off, x.bits, x.num, x.pk, x.pkn, x.dis, x.fed, x.pos, x.bv, x.bn, x.arr, x.prev⟩, d.mb), ⟨rs_m hx rfl, hmb.1, hmbW⟩, rfl, rfl, rfl, rfl, ⟨rfl, rfl⟩, rfl, rfl, rfl, rfl, rfl, ⟨rfl, rfl⟩, rfl, fun y hy => ⟨x.P, fun m => ⟨⟨rs_m hy.1 rfl, by omega⟩, fun v hv => ?_, fun v hv e => ⟨(v, e), ⟨rs_m hv.ok rfl, ?_⟩, rfl, rfl, rfl, rfl, ⟨rfl, rfl⟩, rfl, rfl, rfl, rfl, rfl, ⟨rfl, rfl⟩, rfl, rfl⟩⟩⟩⟩⟩
  · have hbk : bkOK x.W v.bits v.num := hv.ok.l.bk
    have hnum : y.2 ≤ v.num := hv.num
    have hok : rsOK (x.put v) := rs_m hv.ok rfl
    have hmono := cl_mono hg hbk.up
    have hclb := cl_pos hg v.bits
    have hcdb := (cd_hit hg v.bits).1
    have h60 := hg.sixty
    have hm := maskN (b := v.bits) (n := d.cb) (by omega)
    have hsame : cl lens v.bits ≤ v.num → cd lens x.W = cd lens v.bits ∧ cl lens x.W = cl lens v.bits := by
      intro h
      have h1 := cd_same hg (v := v.bits) (w := x.W) (bk_val hbk h)
      exact ⟨h1, by unfold cl; rw [h1]⟩
    have hmod : v.bits % 2 ^ d.cb < 2 ^ d.cb := Nat.mod_lt _ hpow
    simp only [hm, Int.toNat_natCast]
    have hw1 : IntKind.u64.wrap ((cl lens v.bits : Nat) : Int) = (cl lens v.bits : Int) := by rw [wr64]; omega
    have hw2 : IntKind.u64.wrap ((cd lens v.bits : Nat) : Int) = (cd lens v.bits : Int) := by rw [wr64]; omega
    have hL := low31 (k := cd lens v.bits) (n := cl lens v.bits) (by omega) (by omega)
    have h64 : v.num ≤ 64 := hbk.n
    have t1 : cl lens v.bits ≤ v.num → took x (cl lens x.W) { v with bits := v.bits / 2 ^ cl lens v.bits, num := v.num - cl lens v.bits } := by
      intro h
      rw [(hsame h).2]
      exact rs_take (x := x) (v := v) hok h
    have t2 : shrI IntKind.u64 (v.bits : Int) (cl lens v.bits : Int) = ((v.bits / 2 ^ cl lens v.bits : Nat) : Int) := by
      rw [shrN, show min (cl lens v.bits) IntKind.u64.bits = cl lens v.bits by simp only [IntKind.bits]; omega]
    refine ⟨by omega, by omega, fun z hz => ?_⟩
    obtain ⟨c, hc, rfl⟩ := ints_get hz
    rcases Nat.lt_or_ge d.cb (cl lens v.bits) with hlong | hshort
    · obtain ⟨k, sl, tb, lb, h1, h2, h3, h4, h5, h6, h7, h8, h9⟩ := hd.long v.bits hlong
      obtain rfl := Option.some.inj (hc.symm.trans h1)
      have hK := low31 (k := k) (n := d.cb + 1) (by omega) (by omega)
      have hwk : IntKind.u64.wrap ((d.cb + 1 : Nat) : Int) = ((d.cb + 1 : Nat) : Int) := by rw [wr64]; omega
      have hsh : shrI IntKind.u64 (v.bits : Int) (d.cb : Int) = ((v.bits / 2 ^ d.cb : Nat) : Int) := by
        rw [shrN, show min d.cb IntKind.u64.bits = d.cb by simp only [IntKind.bits]; omega]
      have hlm := maskN (b := v.bits / 2 ^ d.cb) (n := lb) (by omega)
      have hkl := (List.getElem?_eq_some_iff.1 h3).1
      have htl := (List.getElem?_eq_some_iff.1 h9).1
      simp only [hK, hwk, hsh, h7, hlm, h3, Int.toNat_natCast, Option.some.injEq, forall_eq']
      refine ⟨fun _ => ⟨by decide, by omega, hkl, by omega, ints tb, h4, fun _ => ⟨(show 0 ≤ ((v.bits / 2 ^ d.cb % 2 ^ lb : Nat) : Int) ∧ ((v.bits / 2 ^ d.cb % 2 ^ lb : Nat) : Int) < ((ints tb).length : Nat) by rw [ints_len]; omega), (show v.bits / 2 ^ d.cb % 2 ^ lb < (ints tb).length by rw [ints_len]; exact htl), fun z hz => ?_⟩⟩, fun h => by omega⟩
      obtain ⟨c, hc, rfl⟩ := ints_get hz
      obtain rfl := Option.some.inj (hc.symm.trans h9)
      simp only [hL, hw1, hw2, t2]
      refine ⟨fun h => ⟨by omega, by decide, _, t1 (by omega), ?_, rfl, rfl, ?_, ⟨rfl, rfl⟩, rfl, rfl, rfl, rfl, rfl, ⟨rfl, rfl⟩, rfl⟩, fun h => ⟨(v, cl lens v.bits), ⟨⟨hok, hclb.1, hmono⟩, by dsimp only; omega⟩, rfl, rfl, rfl, rfl, ⟨rfl, rfl⟩, rfl, rfl, rfl, rfl, rfl, ⟨rfl, rfl⟩, rfl⟩⟩
      · rw [(hsame (by omega)).1]
      · rw [wr64]; dsimp only; omega
    · have h1 := hd.short v.bits hshort
      obtain rfl := Option.some.inj (hc.symm.trans h1)
      simp only [hL, hw1, hw2, t2]
      refine ⟨fun h => by omega, fun _ => ⟨fun h => ⟨by omega, by decide, _, t1 (by omega), ?_, rfl, rfl, ?_, ⟨rfl, rfl⟩, rfl, rfl, rfl, rfl, rfl, ⟨rfl, rfl⟩, rfl⟩, fun h => ⟨(v, cl lens v.bits), ⟨⟨hok, hclb.1, hmono⟩, by dsimp only; omega⟩, rfl, rfl, rfl, rfl, ⟨rfl, rfl⟩, rfl, rfl, rfl, rfl, rfl, ⟨rfl, rfl⟩, rfl⟩⟩⟩
      · rw [(hsame (by omega)).1]
      · rw [wr64]; dsimp only; omega
  · have h1 : x.P + v.num = 8 * x.bs.length := hv.all
    have h2 : v.num < y.2 := hv.num
    omega
theorem s105 (G : Gl) (P : Nat) (lens : List Nat) : SpecOK (CC G) 105 (c105 G P lens).pt := specH G 4 (b103_ok G) (fn := Tryz.f105) rfl NA (c105 G P lens) (fun x => a105 x.1 lens) fun ⟨x, d⟩ h => Met.of (eq_c105 G P lens x d) (ok_c105 G P lens x d h.1 h.2)
end Pc
/-
  TryReadBits, TryReadSymbol, alike do what their contracts say.
-/
set_option linter.unusedVariables false
set_option maxRecDepth 100000
open Go Go.Vg Go.Proofs
namespace Pc
noncomputable def a23 (l : List Pt) : Ann TT := fun r S => match r with
  | 4 => some {
    X := Nat
    phi := fun i => i ≤ l.length
    fr := fun i => [(5, iv .i64 i)]
    H := fun i => []
    mu := fun i => l.length - i }
  | _ => none
def cond_c102 (G : Gl) (P : Nat) (x : RS) (n : Nat) : Prop :=
 (x.rb = x.rb) ∧ Br (decide ((x.num : Int) < (↑n : Int)))
 (((∃ x1 : (Unit), (True) ∧ 
 ((0 : Int) = (0 : Int)) ∧ 
 (false = false) ∧ (x.m = x.m) ∧ (relLe x.rel x.rel) ∧ 
 (x.rb = x.rb) ∧ ((x.off : Int) = (x.off : Int)) ∧ (x.sb = x.sb ∧ Off.lit 0 = Off.lit 0) ∧ 
 (Value.nilIface = Value.nilIface) ∧ (x.bb = x.bb ∧ Off.lit 0 = Off.lit 0) ∧ 
 ((x.bits : Int) = (x.bits : Int)) ∧ ((x.num : Int) = (x.num : Int)) ∧ (x.big = x.big) ∧ (x.pk = x.pk ∧ x.pkn = x.pkn) ∧ 
 (x.dis = x.dis) ∧ ((x.fed : Int) = (x.fed : Int)) ∧ (Value.pointer none = Value.pointer none) ∧ (x.bb = x.bb ∧ Off.lit 0 = Off.lit 0) ∧ 
 (Value.pointer none = Value.pointer none) ∧ (x.sb = x.sb) ∧ (x.vs = x.vs ∧ ints x.bs = ints x.bs) ∧ 
 ((x.off : Int) = (x.off : Int)) ∧ (x.prev = x.prev) ∧ (x.bb = x.bb) ∧ (x.sb = x.sb ∧ Off.lit 0 = Off.lit 0) ∧ 
 ((x.pos : Int) = (x.pos : Int)) ∧ (x.bv = x.bv ∧ x.bn = x.bn) ∧ 
 ((512 : Nat) = (512 : Nat) ∧ x.arr = x.arr) ∧ 
 (True)) ∨
 (∃ x1 : (RV), (took x n x1) ∧ 
 ((0 : Int) = (↑(RS.W x % (2 : Nat) ^ n) : Int)) ∧ 
 (false = true) ∧ 
 (x.m = x.m) ∧ 
 (relLe x.rel x.rel) ∧ 
 (x.rb = x.rb) ∧ 
 ((x.off : Int) = (x1.off : Int)) ∧ 
 (x.sb = x.sb ∧ Off.lit 0 = Off.lit 0) ∧ 
 (Value.nilIface = Value.nilIface) ∧ (x.bb = x.bb ∧ Off.lit 0 = Off.lit 0) ∧ 
 ((x.bits : Int) = (x1.bits : Int)) ∧ 
 ((x.num : Int) = (x1.num : Int)) ∧ 
 (x.big = x.big) ∧ 
 (x.pk = x1.pk ∧ x.pkn = x1.pkn) ∧ 
 (x.dis = x1.dis) ∧ 
 ((x.fed : Int) = (x1.fed : Int)) ∧ 
 (Value.pointer none = Value.pointer none) ∧ (x.bb = x.bb ∧ Off.lit 0 = Off.lit 0) ∧ 
 (Value.pointer none = Value.pointer none) ∧ (x.sb = x.sb) ∧ 
 (x.vs = x.vs ∧ ints x.bs = ints x.bs) ∧ 
 ((x.off : Int) = (x1.off : Int)) ∧ 
 (x.prev = x1.prev) ∧ 
 (x.bb = x.bb) ∧ 
 (x.sb = x.sb ∧ Off.lit 0 = Off.lit 0) ∧ 
 ((x.pos : Int) = (x1.pos : Int)) ∧ 
 (x.bv = x1.bv ∧ x.bn = x1.bn) ∧ 
 ((512 : Nat) = (512 : Nat) ∧ x.arr = x1.arr) ∧ 
 (True))))
 ((x.rb = x.rb) ∧ ((0 : Int) ≤ (↑n : Int)) ∧ 
 (x.rb = x.rb) ∧ ((0 : Int) ≤ (↑n : Int)) ∧ 
 (x.rb = x.rb) ∧ (x.rb = x.rb) ∧ (x.rb = x.rb) ∧ ((∃ x1 : (Unit), (True) ∧ 
 (bitI BinOp.and IntKind.u64 (x.bits : Int) (IntKind.wrap IntKind.u64 (shlI IntKind.u64 (1 : Int) (↑n : Int) - (1 : Int))) = (0 : Int)) ∧ 
 (true = false) ∧ 
 (x.m = x.m) ∧ (relLe x.rel x.rel) ∧ 
 (x.rb = x.rb) ∧ ((x.off : Int) = (x.off : Int)) ∧ (x.sb = x.sb ∧ Off.lit 0 = Off.lit 0) ∧ 
 (Value.nilIface = Value.nilIface) ∧ (x.bb = x.bb ∧ Off.lit 0 = Off.lit 0) ∧ 
 (shrI IntKind.u64 (x.bits : Int) (↑n : Int) = (x.bits : Int)) ∧ 
 (IntKind.wrap IntKind.u64 ((x.num : Int) - (↑n : Int)) = (x.num : Int)) ∧ 
 (x.big = x.big) ∧ (x.pk = x.pk ∧ x.pkn = x.pkn) ∧ 
 (x.dis = x.dis) ∧ ((x.fed : Int) = (x.fed : Int)) ∧ (Value.pointer none = Value.pointer none) ∧ (x.bb = x.bb ∧ Off.lit 0 = Off.lit 0) ∧ 
 (Value.pointer none = Value.pointer none) ∧ (x.sb = x.sb) ∧ (x.vs = x.vs ∧ ints x.bs = ints x.bs) ∧ 
 ((x.off : Int) = (x.off : Int)) ∧ (x.prev = x.prev) ∧ (x.bb = x.bb) ∧ (x.sb = x.sb ∧ Off.lit 0 = Off.lit 0) ∧ 
 ((x.pos : Int) = (x.pos : Int)) ∧ (x.bv = x.bv ∧ x.bn = x.bn) ∧ 
 ((512 : Nat) = (512 : Nat) ∧ x.arr = x.arr) ∧ 
 (True)) ∨
 (∃ x1 : (RV), (took x n x1) ∧ 
 (bitI BinOp.and IntKind.u64 (x.bits : Int) (IntKind.wrap IntKind.u64 (shlI IntKind.u64 (1 : Int) (↑n : Int) - (1 : Int))) = (↑(RS.W x % (2 : Nat) ^ n) : Int)) ∧ 
 (true = true) ∧ (x.m = x.m) ∧ 
 (relLe x.rel x.rel) ∧ 
 (x.rb = x.rb) ∧ 
 ((x.off : Int) = (x1.off : Int)) ∧ 
 (x.sb = x.sb ∧ Off.lit 0 = Off.lit 0) ∧ 
 (Value.nilIface = Value.nilIface) ∧ (x.bb = x.bb ∧ Off.lit 0 = Off.lit 0) ∧ 
 (shrI IntKind.u64 (x.bits : Int) (↑n : Int) = (x1.bits : Int)) ∧ 
 (IntKind.wrap IntKind.u64 ((x.num : Int) - (↑n : Int)) = (x1.num : Int)) ∧ 
 (x.big = x.big) ∧ 
 (x.pk = x1.pk ∧ x.pkn = x1.pkn) ∧ 
 (x.dis = x1.dis) ∧ 
 ((x.fed : Int) = (x1.fed : Int)) ∧ 
 (Value.pointer none = Value.pointer none) ∧ (x.bb = x.bb ∧ Off.lit 0 = Off.lit 0) ∧ 
 (Value.pointer none = Value.pointer none) ∧ (x.sb = x.sb) ∧ 
 (x.vs = x.vs ∧ ints x.bs = ints x.bs) ∧ 
 ((x.off : Int) = (x1.off : Int)) ∧ 
 (x.prev = x1.prev) ∧ 
 (x.bb = x.bb) ∧ 
 (x.sb = x.sb ∧ Off.lit 0 = Off.lit 0) ∧ 
 ((x.pos : Int) = (x1.pos : Int)) ∧ 
 (x.bv = x1.bv ∧ x.bn = x1.bn) ∧ 
 ((512 : Nat) = (512 : Nat) ∧ x.arr = x1.arr) ∧ 
 (True))))
noncomputable def law_c102 (G : Gl) (P : Nat) (x : RS) (n : Nat) : VCT := fnx (CH G 4) (INH G 4 no NA) noAnn Tryz.f102 ((c102 P).args (x, n)) ((c102 P).H (x, n)) (outK true 5 ((c102 P).ret (x, n))) ((c102 P).pan (x, n))
theorem eq_c102 (G : Gl) (P : Nat) (x : RS) (n : Nat) : cond_c102 G P x n = (law_c102 G P x n).den := by kernel_rfl
def cond_c104 (G : Gl) (P : Nat) (lens : List Nat) (x : RS) (d : DC) : Prop :=
 (x.rb = x.rb) ∧ (DC.db d = DC.db d) ∧ Br (decide ((x.num : Int) < IntKind.wrap IntKind.u64 (↑(DC.mb d) : Int)))
 (((∃ x1 : (Unit), (True) ∧ 
 ((0 : Int) = (0 : Int)) ∧ 
 (false = false) ∧ (x.m = x.m) ∧ (relLe x.rel x.rel) ∧ 
 (x.rb = x.rb) ∧ ((x.off : Int) = (x.off : Int)) ∧ (x.sb = x.sb ∧ Off.lit 0 = Off.lit 0) ∧ 
 (Value.nilIface = Value.nilIface) ∧ (x.bb = x.bb ∧ Off.lit 0 = Off.lit 0) ∧ 
 ((x.bits : Int) = (x.bits : Int)) ∧ ((x.num : Int) = (x.num : Int)) ∧ (x.big = x.big) ∧ (x.pk = x.pk ∧ x.pkn = x.pkn) ∧ 
 (x.dis = x.dis) ∧ ((x.fed : Int) = (x.fed : Int)) ∧ (Value.pointer none = Value.pointer none) ∧ (x.bb = x.bb ∧ Off.lit 0 = Off.lit 0) ∧ 
 (Value.pointer none = Value.pointer none) ∧ (x.sb = x.sb) ∧ (x.vs = x.vs ∧ ints x.bs = ints x.bs) ∧ 
 ((x.off : Int) = (x.off : Int)) ∧ (x.prev = x.prev) ∧ (x.bb = x.bb) ∧ (x.sb = x.sb ∧ Off.lit 0 = Off.lit 0) ∧ 
 ((x.pos : Int) = (x.pos : Int)) ∧ (x.bv = x.bv ∧ x.bn = x.bn) ∧ 
 ((512 : Nat) = (512 : Nat) ∧ x.arr = x.arr) ∧ 
 (DC.db d = DC.db d) ∧ (DC.cv d = DC.cv d ∧ ints (DC.ch d) = ints (DC.ch d)) ∧ 
 (DC.lv d = DC.lv d ∧ DC.lk d = DC.lk d) ∧ 
 ((↑(DC.cm d) : Int) = (↑(DC.cm d) : Int)) ∧ ((↑(DC.lm d) : Int) = (↑(DC.lm d) : Int)) ∧ ((↑(DC.cb d) : Int) = (↑(DC.cb d) : Int)) ∧ ((↑(DC.mb d) : Int) = (↑(DC.mb d) : Int)) ∧ ((↑(DC.ns d) : Int) = (↑(DC.ns d) : Int)) ∧ (True)) ∨
 (∃ x1 : (RV), (took x (cl lens (RS.W x)) x1) ∧ 
 ((0 : Int) = (↑(cd lens (RS.W x)) : Int)) ∧ 
 (false = true) ∧ 
 (x.m = x.m) ∧ 
 (relLe x.rel x.rel) ∧ 
 (x.rb = x.rb) ∧ 
 ((x.off : Int) = (x1.off : Int)) ∧ 
 (x.sb = x.sb ∧ Off.lit 0 = Off.lit 0) ∧ 
 (Value.nilIface = Value.nilIface) ∧ (x.bb = x.bb ∧ Off.lit 0 = Off.lit 0) ∧ 
 ((x.bits : Int) = (x1.bits : Int)) ∧ 
 ((x.num : Int) = (x1.num : Int)) ∧ 
 (x.big = x.big) ∧ 
 (x.pk = x1.pk ∧ x.pkn = x1.pkn) ∧ 
 (x.dis = x1.dis) ∧ 
 ((x.fed : Int) = (x1.fed : Int)) ∧ 
 (Value.pointer none = Value.pointer none) ∧ (x.bb = x.bb ∧ Off.lit 0 = Off.lit 0) ∧ 
 (Value.pointer none = Value.pointer none) ∧ (x.sb = x.sb) ∧ 
 (x.vs = x.vs ∧ ints x.bs = ints x.bs) ∧ 
 ((x.off : Int) = (x1.off : Int)) ∧ 
 (x.prev = x1.prev) ∧ 
 (x.bb = x.bb) ∧ 
 (x.sb = x.sb ∧ Off.lit 0 = Off.lit 0) ∧ 
 ((x.pos : Int) = (x1.pos : Int)) ∧ 
 (x.bv = x1.bv ∧ x.bn = x1.bn) ∧ 
 ((512 : Nat) = (512 : Nat) ∧ x.arr = x1.arr) ∧ 
 (DC.db d = DC.db d) ∧ (DC.cv d = DC.cv d ∧ ints (DC.ch d) = ints (DC.ch d)) ∧ 
 (DC.lv d = DC.lv d ∧ DC.lk d = DC.lk d) ∧ 
 ((↑(DC.cm d) : Int) = (↑(DC.cm d) : Int)) ∧ ((↑(DC.lm d) : Int) = (↑(DC.lm d) : Int)) ∧ ((↑(DC.cb d) : Int) = (↑(DC.cb d) : Int)) ∧ ((↑(DC.mb d) : Int) = (↑(DC.mb d) : Int)) ∧ ((↑(DC.ns d) : Int) = (↑(DC.ns d) : Int)) ∧ (True))))
 ((DC.db d = DC.db d) ∧ Br ((↑(List.length (ints (DC.ch d))) : Int) == (0 : Int))
 (((∃ x1 : (Unit), (True) ∧ 
 ((0 : Int) = (0 : Int)) ∧ 
 (false = false) ∧ (x.m = x.m) ∧ (relLe x.rel x.rel) ∧ 
 (x.rb = x.rb) ∧ ((x.off : Int) = (x.off : Int)) ∧ (x.sb = x.sb ∧ Off.lit 0 = Off.lit 0) ∧ 
 (Value.nilIface = Value.nilIface) ∧ (x.bb = x.bb ∧ Off.lit 0 = Off.lit 0) ∧ 
 ((x.bits : Int) = (x.bits : Int)) ∧ ((x.num : Int) = (x.num : Int)) ∧ (x.big = x.big) ∧ (x.pk = x.pk ∧ x.pkn = x.pkn) ∧ 
 (x.dis = x.dis) ∧ ((x.fed : Int) = (x.fed : Int)) ∧ (Value.pointer none = Value.pointer none) ∧ (x.bb = x.bb ∧ Off.lit 0 = Off.lit 0) ∧ 
 (Value.pointer none = Value.pointer none) ∧ (x.sb = x.sb) ∧ (x.vs = x.vs ∧ ints x.bs = ints x.bs) ∧ 
 ((x.off : Int) = (x.off : Int)) ∧ (x.prev = x.prev) ∧ (x.bb = x.bb) ∧ (x.sb = x.sb ∧ Off.lit 0 = Off.lit 0) ∧ 
 ((x.pos : Int) = (x.pos : Int)) ∧ (x.bv = x.bv ∧ x.bn = x.bn) ∧ 
 ((512 : Nat) = (512 : Nat) ∧ x.arr = x.arr) ∧ 
 (DC.db d = DC.db d) ∧ (DC.cv d = DC.cv d ∧ ints (DC.ch d) = ints (DC.ch d)) ∧ 
 (DC.lv d = DC.lv d ∧ DC.lk d = DC.lk d) ∧ 
 ((↑(DC.cm d) : Int) = (↑(DC.cm d) : Int)) ∧ ((↑(DC.lm d) : Int) = (↑(DC.lm d) : Int)) ∧ ((↑(DC.cb d) : Int) = (↑(DC.cb d) : Int)) ∧ ((↑(DC.mb d) : Int) = (↑(DC.mb d) : Int)) ∧ ((↑(DC.ns d) : Int) = (↑(DC.ns d) : Int)) ∧ (True)) ∨
 (∃ x1 : (RV), (took x (cl lens (RS.W x)) x1) ∧ 
 ((0 : Int) = (↑(cd lens (RS.W x)) : Int)) ∧ 
 (false = true) ∧ 
 (x.m = x.m) ∧ 
 (relLe x.rel x.rel) ∧ 
 (x.rb = x.rb) ∧ 
 ((x.off : Int) = (x1.off : Int)) ∧ 
 (x.sb = x.sb ∧ Off.lit 0 = Off.lit 0) ∧ 
 (Value.nilIface = Value.nilIface) ∧ (x.bb = x.bb ∧ Off.lit 0 = Off.lit 0) ∧ 
 ((x.bits : Int) = (x1.bits : Int)) ∧ 
 ((x.num : Int) = (x1.num : Int)) ∧ 
 (x.big = x.big) ∧ 
 (x.pk = x1.pk ∧ x.pkn = x1.pkn) ∧ 
 (x.dis = x1.dis) ∧ 
 ((x.fed : Int) = (x1.fed : Int)) ∧ 
 (Value.pointer none = Value.pointer none) ∧ (x.bb = x.bb ∧ Off.lit 0 = Off.lit 0) ∧ 
 (Value.pointer none = Value.pointer none) ∧ (x.sb = x.sb) ∧ 
 (x.vs = x.vs ∧ ints x.bs = ints x.bs) ∧ 
 ((x.off : Int) = (x1.off : Int)) ∧ 
 (x.prev = x1.prev) ∧ 
 (x.bb = x.bb) ∧ 
 (x.sb = x.sb ∧ Off.lit 0 = Off.lit 0) ∧ 
 ((x.pos : Int) = (x1.pos : Int)) ∧ 
 (x.bv = x1.bv ∧ x.bn = x1.bn) ∧ 
 ((512 : Nat) = (512 : Nat) ∧ x.arr = x1.arr) ∧ 
 (DC.db d = DC.db d) ∧ (DC.cv d = DC.cv d ∧ ints (DC.ch d) = ints (DC.ch d)) ∧ 
 (DC.lv d = DC.lv d ∧ DC.lk d = DC.lk d) ∧ 
 ((↑(DC.cm d) : Int) = (↑(DC.cm d) : Int)) ∧ ((↑(DC.lm d) : Int) = (↑(DC.lm d) : Int)) ∧ ((↑(DC.cb d) : Int) = (↑(DC.cb d) : Int)) ∧ ((↑(DC.mb d) : Int) = (↑(DC.mb d) : Int)) ∧ ((↑(DC.ns d) : Int) = (↑(DC.ns d) : Int)) ∧ (True))))
 ((DC.db d = DC.db d) ∧ (x.rb = x.rb) ∧ (DC.db d = DC.db d) ∧ (inRange (bitI BinOp.and IntKind.u32 (IntKind.wrap IntKind.u32 (x.bits : Int)) (↑(DC.cm d) : Int)) (List.length (ints (DC.ch d)))) ∧ 
 (Int.toNat (bitI BinOp.and IntKind.u32 (IntKind.wrap IntKind.u32 (x.bits : Int)) (↑(DC.cm d) : Int)) < List.length (ints (DC.ch d))) ∧ 
 ∀ x1 : (Int), (((ints (DC.ch d))[Int.toNat (bitI BinOp.and IntKind.u32 (IntKind.wrap IntKind.u32 (x.bits : Int)) (↑(DC.cm d) : Int))]? = some x1) → 
 (x.rb = x.rb) ∧ Br (decide (IntKind.wrap IntKind.u64 (bitI BinOp.and IntKind.u32 x1 (31 : Int)) > (x.num : Int)))
 (((∃ x2 : (Unit), (True) ∧ 
 ((0 : Int) = (0 : Int)) ∧ 
 (false = false) ∧ (x.m = x.m) ∧ (relLe x.rel x.rel) ∧ 
 (x.rb = x.rb) ∧ ((x.off : Int) = (x.off : Int)) ∧ (x.sb = x.sb ∧ Off.lit 0 = Off.lit 0) ∧ 
 (Value.nilIface = Value.nilIface) ∧ (x.bb = x.bb ∧ Off.lit 0 = Off.lit 0) ∧ 
 ((x.bits : Int) = (x.bits : Int)) ∧ ((x.num : Int) = (x.num : Int)) ∧ (x.big = x.big) ∧ (x.pk = x.pk ∧ x.pkn = x.pkn) ∧ 
 (x.dis = x.dis) ∧ ((x.fed : Int) = (x.fed : Int)) ∧ (Value.pointer none = Value.pointer none) ∧ (x.bb = x.bb ∧ Off.lit 0 = Off.lit 0) ∧ 
 (Value.pointer none = Value.pointer none) ∧ (x.sb = x.sb) ∧ (x.vs = x.vs ∧ ints x.bs = ints x.bs) ∧ 
 ((x.off : Int) = (x.off : Int)) ∧ (x.prev = x.prev) ∧ (x.bb = x.bb) ∧ (x.sb = x.sb ∧ Off.lit 0 = Off.lit 0) ∧ 
 ((x.pos : Int) = (x.pos : Int)) ∧ (x.bv = x.bv ∧ x.bn = x.bn) ∧ 
 ((512 : Nat) = (512 : Nat) ∧ x.arr = x.arr) ∧ 
 (DC.db d = DC.db d) ∧ (DC.cv d = DC.cv d ∧ ints (DC.ch d) = ints (DC.ch d)) ∧ 
 (DC.lv d = DC.lv d ∧ DC.lk d = DC.lk d) ∧ 
 ((↑(DC.cm d) : Int) = (↑(DC.cm d) : Int)) ∧ ((↑(DC.lm d) : Int) = (↑(DC.lm d) : Int)) ∧ ((↑(DC.cb d) : Int) = (↑(DC.cb d) : Int)) ∧ ((↑(DC.mb d) : Int) = (↑(DC.mb d) : Int)) ∧ ((↑(DC.ns d) : Int) = (↑(DC.ns d) : Int)) ∧ (True)) ∨
 (∃ x2 : (RV), (took x (cl lens (RS.W x)) x2) ∧ 
 ((0 : Int) = (↑(cd lens (RS.W x)) : Int)) ∧ 
 (false = true) ∧ 
 (x.m = x.m) ∧ 
 (relLe x.rel x.rel) ∧ 
 (x.rb = x.rb) ∧ 
 ((x.off : Int) = (x2.off : Int)) ∧ 
 (x.sb = x.sb ∧ Off.lit 0 = Off.lit 0) ∧ 
 (Value.nilIface = Value.nilIface) ∧ (x.bb = x.bb ∧ Off.lit 0 = Off.lit 0) ∧ 
 ((x.bits : Int) = (x2.bits : Int)) ∧ 
 ((x.num : Int) = (x2.num : Int)) ∧ 
 (x.big = x.big) ∧ 
 (x.pk = x2.pk ∧ x.pkn = x2.pkn) ∧ 
 (x.dis = x2.dis) ∧ 
 ((x.fed : Int) = (x2.fed : Int)) ∧ 
 (Value.pointer none = Value.pointer none) ∧ (x.bb = x.bb ∧ Off.lit 0 = Off.lit 0) ∧ 
 (Value.pointer none = Value.pointer none) ∧ (x.sb = x.sb) ∧ 
 (x.vs = x.vs ∧ ints x.bs = ints x.bs) ∧ 
 ((x.off : Int) = (x2.off : Int)) ∧ 
 (x.prev = x2.prev) ∧ 
 (x.bb = x.bb) ∧ 
 (x.sb = x.sb ∧ Off.lit 0 = Off.lit 0) ∧ 
 ((x.pos : Int) = (x2.pos : Int)) ∧ 
 (x.bv = x2.bv ∧ x.bn = x2.bn) ∧ 
 ((512 : Nat) = (512 : Nat) ∧ x.arr = x2.arr) ∧ 
 (DC.db d = DC.db d) ∧ (DC.cv d = DC.cv d ∧ ints (DC.ch d) = ints (DC.ch d)) ∧ 
 (DC.lv d = DC.lv d ∧ DC.lk d = DC.lk d) ∧ 
 ((↑(DC.cm d) : Int) = (↑(DC.cm d) : Int)) ∧ ((↑(DC.lm d) : Int) = (↑(DC.lm d) : Int)) ∧ ((↑(DC.cb d) : Int) = (↑(DC.cb d) : Int)) ∧ ((↑(DC.mb d) : Int) = (↑(DC.mb d) : Int)) ∧ ((↑(DC.ns d) : Int) = (↑(DC.ns d) : Int)) ∧ (True))))
 ((DC.db d = DC.db d) ∧ Br (decide (IntKind.wrap IntKind.u64 (bitI BinOp.and IntKind.u32 x1 (31 : Int)) > IntKind.wrap IntKind.u64 (↑(DC.cb d) : Int)))
 (((∃ x2 : (Unit), (True) ∧ 
 ((0 : Int) = (0 : Int)) ∧ 
 (false = false) ∧ (x.m = x.m) ∧ (relLe x.rel x.rel) ∧ 
 (x.rb = x.rb) ∧ ((x.off : Int) = (x.off : Int)) ∧ (x.sb = x.sb ∧ Off.lit 0 = Off.lit 0) ∧ 
 (Value.nilIface = Value.nilIface) ∧ (x.bb = x.bb ∧ Off.lit 0 = Off.lit 0) ∧ 
 ((x.bits : Int) = (x.bits : Int)) ∧ ((x.num : Int) = (x.num : Int)) ∧ (x.big = x.big) ∧ (x.pk = x.pk ∧ x.pkn = x.pkn) ∧ 
 (x.dis = x.dis) ∧ ((x.fed : Int) = (x.fed : Int)) ∧ (Value.pointer none = Value.pointer none) ∧ (x.bb = x.bb ∧ Off.lit 0 = Off.lit 0) ∧ 
 (Value.pointer none = Value.pointer none) ∧ (x.sb = x.sb) ∧ (x.vs = x.vs ∧ ints x.bs = ints x.bs) ∧ 
 ((x.off : Int) = (x.off : Int)) ∧ (x.prev = x.prev) ∧ (x.bb = x.bb) ∧ (x.sb = x.sb ∧ Off.lit 0 = Off.lit 0) ∧ 
 ((x.pos : Int) = (x.pos : Int)) ∧ (x.bv = x.bv ∧ x.bn = x.bn) ∧ 
 ((512 : Nat) = (512 : Nat) ∧ x.arr = x.arr) ∧ 
 (DC.db d = DC.db d) ∧ (DC.cv d = DC.cv d ∧ ints (DC.ch d) = ints (DC.ch d)) ∧ 
 (DC.lv d = DC.lv d ∧ DC.lk d = DC.lk d) ∧ 
 ((↑(DC.cm d) : Int) = (↑(DC.cm d) : Int)) ∧ ((↑(DC.lm d) : Int) = (↑(DC.lm d) : Int)) ∧ ((↑(DC.cb d) : Int) = (↑(DC.cb d) : Int)) ∧ ((↑(DC.mb d) : Int) = (↑(DC.mb d) : Int)) ∧ ((↑(DC.ns d) : Int) = (↑(DC.ns d) : Int)) ∧ (True)) ∨
 (∃ x2 : (RV), (took x (cl lens (RS.W x)) x2) ∧ 
 ((0 : Int) = (↑(cd lens (RS.W x)) : Int)) ∧ 
 (false = true) ∧ 
 (x.m = x.m) ∧ 
 (relLe x.rel x.rel) ∧ 
 (x.rb = x.rb) ∧ 
 ((x.off : Int) = (x2.off : Int)) ∧ 
 (x.sb = x.sb ∧ Off.lit 0 = Off.lit 0) ∧ 
 (Value.nilIface = Value.nilIface) ∧ (x.bb = x.bb ∧ Off.lit 0 = Off.lit 0) ∧ 
 ((x.bits : Int) = (x2.bits : Int)) ∧ 
 ((x.num : Int) = (x2.num : Int)) ∧ 
 (x.big = x.big) ∧ 
 (x.pk = x2.pk ∧ x.pkn = x2.pkn) ∧ 
 (x.dis = x2.dis) ∧ 
 ((x.fed : Int) = (x2.fed : Int)) ∧ 
 (Value.pointer none = Value.pointer none) ∧ (x.bb = x.bb ∧ Off.lit 0 = Off.lit 0) ∧ 
 (Value.pointer none = Value.pointer none) ∧ (x.sb = x.sb) ∧ 
 (x.vs = x.vs ∧ ints x.bs = ints x.bs) ∧ 
 ((x.off : Int) = (x2.off : Int)) ∧ 
 (x.prev = x2.prev) ∧ 
 (x.bb = x.bb) ∧ 
 (x.sb = x.sb ∧ Off.lit 0 = Off.lit 0) ∧ 
 ((x.pos : Int) = (x2.pos : Int)) ∧ 
 (x.bv = x2.bv ∧ x.bn = x2.bn) ∧ 
 ((512 : Nat) = (512 : Nat) ∧ x.arr = x2.arr) ∧ 
 (DC.db d = DC.db d) ∧ (DC.cv d = DC.cv d ∧ ints (DC.ch d) = ints (DC.ch d)) ∧ 
 (DC.lv d = DC.lv d ∧ DC.lk d = DC.lk d) ∧ 
 ((↑(DC.cm d) : Int) = (↑(DC.cm d) : Int)) ∧ ((↑(DC.lm d) : Int) = (↑(DC.lm d) : Int)) ∧ ((↑(DC.cb d) : Int) = (↑(DC.cb d) : Int)) ∧ ((↑(DC.mb d) : Int) = (↑(DC.mb d) : Int)) ∧ ((↑(DC.ns d) : Int) = (↑(DC.ns d) : Int)) ∧ (True))))
 ((x.rb = x.rb) ∧ ((0 : Int) ≤ IntKind.wrap IntKind.u64 (bitI BinOp.and IntKind.u32 x1 (31 : Int))) ∧ 
 (x.rb = x.rb) ∧ (x.rb = x.rb) ∧ (x.rb = x.rb) ∧ ((0 : Int) ≤ (5 : Int)) ∧ 
 ((∃ x2 : (Unit), (True) ∧ 
 (IntKind.wrap IntKind.u64 (shrI IntKind.u32 x1 (5 : Int)) = (0 : Int)) ∧ 
 (true = false) ∧ 
 (x.m = x.m) ∧ (relLe x.rel x.rel) ∧ 
 (x.rb = x.rb) ∧ ((x.off : Int) = (x.off : Int)) ∧ (x.sb = x.sb ∧ Off.lit 0 = Off.lit 0) ∧ 
 (Value.nilIface = Value.nilIface) ∧ (x.bb = x.bb ∧ Off.lit 0 = Off.lit 0) ∧ 
 (shrI IntKind.u64 (x.bits : Int) (IntKind.wrap IntKind.u64 (bitI BinOp.and IntKind.u32 x1 (31 : Int))) = (x.bits : Int)) ∧ 
 (IntKind.wrap IntKind.u64 ((x.num : Int) - IntKind.wrap IntKind.u64 (bitI BinOp.and IntKind.u32 x1 (31 : Int))) = (x.num : Int)) ∧ 
 (x.big = x.big) ∧ (x.pk = x.pk ∧ x.pkn = x.pkn) ∧ 
 (x.dis = x.dis) ∧ ((x.fed : Int) = (x.fed : Int)) ∧ (Value.pointer none = Value.pointer none) ∧ (x.bb = x.bb ∧ Off.lit 0 = Off.lit 0) ∧ 
 (Value.pointer none = Value.pointer none) ∧ (x.sb = x.sb) ∧ (x.vs = x.vs ∧ ints x.bs = ints x.bs) ∧ 
 ((x.off : Int) = (x.off : Int)) ∧ (x.prev = x.prev) ∧ (x.bb = x.bb) ∧ (x.sb = x.sb ∧ Off.lit 0 = Off.lit 0) ∧ 
 ((x.pos : Int) = (x.pos : Int)) ∧ (x.bv = x.bv ∧ x.bn = x.bn) ∧ 
 ((512 : Nat) = (512 : Nat) ∧ x.arr = x.arr) ∧ 
 (DC.db d = DC.db d) ∧ (DC.cv d = DC.cv d ∧ ints (DC.ch d) = ints (DC.ch d)) ∧ 
 (DC.lv d = DC.lv d ∧ DC.lk d = DC.lk d) ∧ 
 ((↑(DC.cm d) : Int) = (↑(DC.cm d) : Int)) ∧ ((↑(DC.lm d) : Int) = (↑(DC.lm d) : Int)) ∧ ((↑(DC.cb d) : Int) = (↑(DC.cb d) : Int)) ∧ ((↑(DC.mb d) : Int) = (↑(DC.mb d) : Int)) ∧ ((↑(DC.ns d) : Int) = (↑(DC.ns d) : Int)) ∧ (True)) ∨
 (∃ x2 : (RV), (took x (cl lens (RS.W x)) x2) ∧ 
 (IntKind.wrap IntKind.u64 (shrI IntKind.u32 x1 (5 : Int)) = (↑(cd lens (RS.W x)) : Int)) ∧ 
 (true = true) ∧ (x.m = x.m) ∧ 
 (relLe x.rel x.rel) ∧ 
 (x.rb = x.rb) ∧ 
 ((x.off : Int) = (x2.off : Int)) ∧ 
 (x.sb = x.sb ∧ Off.lit 0 = Off.lit 0) ∧ 
 (Value.nilIface = Value.nilIface) ∧ (x.bb = x.bb ∧ Off.lit 0 = Off.lit 0) ∧ 
 (shrI IntKind.u64 (x.bits : Int) (IntKind.wrap IntKind.u64 (bitI BinOp.and IntKind.u32 x1 (31 : Int))) = (x2.bits : Int)) ∧ 
 (IntKind.wrap IntKind.u64 ((x.num : Int) - IntKind.wrap IntKind.u64 (bitI BinOp.and IntKind.u32 x1 (31 : Int))) = (x2.num : Int)) ∧ 
 (x.big = x.big) ∧ 
 (x.pk = x2.pk ∧ x.pkn = x2.pkn) ∧ 
 (x.dis = x2.dis) ∧ 
 ((x.fed : Int) = (x2.fed : Int)) ∧ 
 (Value.pointer none = Value.pointer none) ∧ (x.bb = x.bb ∧ Off.lit 0 = Off.lit 0) ∧ 
 (Value.pointer none = Value.pointer none) ∧ (x.sb = x.sb) ∧ 
 (x.vs = x.vs ∧ ints x.bs = ints x.bs) ∧ 
 ((x.off : Int) = (x2.off : Int)) ∧ 
 (x.prev = x2.prev) ∧ 
 (x.bb = x.bb) ∧ 
 (x.sb = x.sb ∧ Off.lit 0 = Off.lit 0) ∧ 
 ((x.pos : Int) = (x2.pos : Int)) ∧ 
 (x.bv = x2.bv ∧ x.bn = x2.bn) ∧ 
 ((512 : Nat) = (512 : Nat) ∧ x.arr = x2.arr) ∧ 
 (DC.db d = DC.db d) ∧ (DC.cv d = DC.cv d ∧ ints (DC.ch d) = ints (DC.ch d)) ∧ 
 (DC.lv d = DC.lv d ∧ DC.lk d = DC.lk d) ∧ 
 ((↑(DC.cm d) : Int) = (↑(DC.cm d) : Int)) ∧ ((↑(DC.lm d) : Int) = (↑(DC.lm d) : Int)) ∧ ((↑(DC.cb d) : Int) = (↑(DC.cb d) : Int)) ∧ ((↑(DC.mb d) : Int) = (↑(DC.mb d) : Int)) ∧ ((↑(DC.ns d) : Int) = (↑(DC.ns d) : Int)) ∧ (True))))))))
noncomputable def law_c104 (G : Gl) (P : Nat) (lens : List Nat) (x : RS) (d : DC) : VCT := fnx (CH G 4) (INH G 4 no NA) noAnn Tryz.f104 ((c104 P lens).args (x, d)) ((c104 P lens).H (x, d)) (outK true 6 ((c104 P lens).ret (x, d))) ((c104 P lens).pan (x, d))
theorem eq_c104 (G : Gl) (P : Nat) (lens : List Nat) (x : RS) (d : DC) : cond_c104 G P lens x d = (law_c104 G P lens x d).den := by kernel_rfl
def cond_c23 (G : Gl) (m : Fz) (rel : Rel TT) (v : Value) (l : List Pt) (w : Value) (k : List Pt) : Prop :=
 Br ((↑(List.length l) : Int) != (↑(List.length k) : Int))
 (∃ x1 : (Unit), (True) ∧ 
 (false = true) ∧ 
 (m = m) ∧ (relLe rel rel) ∧ 
 (True))
 (∃ x1 : (Nat), (x1 ≤ List.length l) ∧ 
 ((0 : Int) = (x1 : Int)) ∧ 
 (m = m) ∧ (relLe rel rel) ∧ 
 ∀ x2 : (Nat), ((x2 ≤ List.length l) → 
 Br (decide ((x2 : Int) < (↑(List.length l) : Int)))
 ((inRange (x2 : Int) (List.length l)) ∧ 
 (Int.toNat (x2 : Int) < List.length l) ∧ 
 (Int.toNat (x2 : Int) < List.length l) ∧ 
 ∀ x3 : (Pt), ((l[Int.toNat (x2 : Int)]? = some x3) → 
 (inRange (x2 : Int) (List.length k)) ∧ 
 (Int.toNat (x2 : Int) < List.length k) ∧ 
 (Int.toNat (x2 : Int) < List.length k) ∧ 
 ∀ x4 : (Pt), ((k[Int.toNat (x2 : Int)]? = some x4) → 
 Br (x3.kind != x4.kind)
 (∃ x5 : (Unit), (True) ∧ 
 (false = true) ∧ 
 (m = m) ∧ (relLe rel rel) ∧ 
 (True))
 ((inRange (x2 : Int) (List.length l)) ∧ 
 (Int.toNat (x2 : Int) < List.length l) ∧ 
 (Int.toNat (x2 : Int) < List.length l) ∧ 
 ∀ x5 : (Pt), ((l[Int.toNat (x2 : Int)]? = some x5) → 
 Br (x5.kind != (4 : Int))
 ((inRange (x2 : Int) (List.length l)) ∧ 
 (Int.toNat (x2 : Int) < List.length l) ∧ 
 (Int.toNat (x2 : Int) < List.length l) ∧ 
 ∀ x6 : (Pt), ((l[Int.toNat (x2 : Int)]? = some x6) → 
 (inRange (x2 : Int) (List.length k)) ∧ 
 (Int.toNat (x2 : Int) < List.length k) ∧ 
 (Int.toNat (x2 : Int) < List.length k) ∧ 
 ∀ x7 : (Pt), ((k[Int.toNat (x2 : Int)]? = some x7) → 
 Br (x6.v != x7.v)
 (∃ x8 : (Unit), (True) ∧ 
 (false = true) ∧ 
 (m = m) ∧ (relLe rel rel) ∧ 
 (True))
 ((inRange (x2 : Int) (List.length l)) ∧ 
 (Int.toNat (x2 : Int) < List.length l) ∧ 
 (Int.toNat (x2 : Int) < List.length l) ∧ 
 ∀ x8 : (Pt), ((l[Int.toNat (x2 : Int)]? = some x8) → 
 ∃ x9 : (List (Tys.El TT 5)), (isRo rel 5 (Value.slice (Sl.A x8.s) (x8.s.n) (x8.s.cap)) x9) ∧ 
 ((x8.s.n = List.length x9) → 
 (isBytes (List.flatMap (fun n ↦ [Value.int IntKind.u8 n]) x9)) ∧ 
 (inRange (x2 : Int) (List.length k)) ∧ 
 (Int.toNat (x2 : Int) < List.length k) ∧ 
 (Int.toNat (x2 : Int) < List.length k) ∧ 
 ∀ x10 : (Pt), ((k[Int.toNat (x2 : Int)]? = some x10) → 
 ∃ x11 : (List (Tys.El TT 5)), (isRo rel 5 (Value.slice (Sl.A x10.s) (x10.s.n) (x10.s.cap)) x11) ∧ 
 ((x10.s.n = List.length x11) → 
 (isBytes (List.flatMap (fun n ↦ [Value.int IntKind.u8 n]) x11)) ∧ 
 Br (!ByteArray.toList (strOf (List.flatMap (fun n ↦ [Value.int IntKind.u8 n]) x9)) == ByteArray.toList (strOf (List.flatMap (fun n ↦ [Value.int IntKind.u8 n]) x11)))
 (∃ x12 : (Unit), (True) ∧ 
 (false = true) ∧ 
 (m = m) ∧ (relLe rel rel) ∧ 
 (True))
 ((inI64 ((x2 : Int) + (1 : Int))) ∧ 
 ∃ x12 : (Nat), (x12 ≤ List.length l ∧ List.length l - x12 < List.length l - x2) ∧ 
 ((x2 : Int) + (1 : Int) = (x12 : Int)) ∧ 
 (m = m) ∧ (relLe rel rel) ∧ 
 (True))))))))))
 ((inRange (x2 : Int) (List.length l)) ∧ 
 (Int.toNat (x2 : Int) < List.length l) ∧ 
 (Int.toNat (x2 : Int) < List.length l) ∧ 
 ∀ x6 : (Pt), ((l[Int.toNat (x2 : Int)]? = some x6) → 
 ∃ x7 : (List (Tys.El TT 5)), (isRo rel 5 (Value.slice (Sl.A x6.s) (x6.s.n) (x6.s.cap)) x7) ∧ 
 ((x6.s.n = List.length x7) → 
 (isBytes (List.flatMap (fun n ↦ [Value.int IntKind.u8 n]) x7)) ∧ 
 (inRange (x2 : Int) (List.length k)) ∧ 
 (Int.toNat (x2 : Int) < List.length k) ∧ 
 (Int.toNat (x2 : Int) < List.length k) ∧ 
 ∀ x8 : (Pt), ((k[Int.toNat (x2 : Int)]? = some x8) → 
 ∃ x9 : (List (Tys.El TT 5)), (isRo rel 5 (Value.slice (Sl.A x8.s) (x8.s.n) (x8.s.cap)) x9) ∧ 
 ((x8.s.n = List.length x9) → 
 (isBytes (List.flatMap (fun n ↦ [Value.int IntKind.u8 n]) x9)) ∧ 
 Br (!ByteArray.toList (strOf (List.flatMap (fun n ↦ [Value.int IntKind.u8 n]) x7)) == ByteArray.toList (strOf (List.flatMap (fun n ↦ [Value.int IntKind.u8 n]) x9)))
 (∃ x10 : (Unit), (True) ∧ 
 (false = true) ∧ 
 (m = m) ∧ (relLe rel rel) ∧ 
 (True))
 ((inI64 ((x2 : Int) + (1 : Int))) ∧ 
 ∃ x10 : (Nat), (x10 ≤ List.length l ∧ List.length l - x10 < List.length l - x2) ∧ 
 ((x2 : Int) + (1 : Int) = (x10 : Int)) ∧ 
 (m = m) ∧ (relLe rel rel) ∧ 
 (True))))))))))))
 (∃ x3 : (Unit), (True) ∧ 
 (true = true) ∧ (m = m) ∧ (relLe rel rel) ∧ 
 (True))))
noncomputable def law_c23 (G : Gl) (m : Fz) (rel : Rel TT) (v : Value) (l : List Pt) (w : Value) (k : List Pt) : VCT := fnx (CC G) (IN G no NA) (a23 l) Tryz.f23 (c23.args (m, rel, v, l, w, k)) (c23.H (m, rel, v, l, w, k)) (outK true 2 (c23.ret (m, rel, v, l, w, k))) (c23.pan (m, rel, v, l, w, k))
theorem eq_c23 (G : Gl) (m : Fz) (rel : Rel TT) (v : Value) (l : List Pt) (w : Value) (k : List Pt) : cond_c23 G m rel v l w k = (law_c23 G m rel v l w k).den := by kernel_rfl
theorem ok_c102 (G : Gl) (P : Nat) (x : RS) (n : Nat) (h : rsOK x ∧ n ≤ 56) : cond_c102 G P x n := by
  unfold cond_c102
  simp only [br_d, rel_self, true_and, and_true]
  obtain ⟨hx, hn⟩ := h
  have hb := hx.l.bk
  have h64 := hb.n
  refine ⟨fun _ => .inl ⟨(), trivial⟩, fun h1 => ⟨by omega, by omega, .inr ⟨_, rs_take (v := ⟨x.off, x.bits, x.num, x.pk, x.pkn, x.dis, x.fed, x.pos, x.bv, x.bn, x.arr, x.prev⟩) hx (n := n) (by dsimp only; omega), ?_, rfl, ?_, ?_, ⟨rfl, rfl⟩, rfl, rfl, rfl, rfl, rfl, ⟨rfl, rfl⟩, rfl⟩⟩⟩
  · rw [mask hb.lt hn, bk_val hb (by omega)]
  · rw [shrN, show min n IntKind.u64.bits = n by simp only [IntKind.bits]; omega]
  · rw [show (x.num : Int) - (n : Int) = ((x.num - n : Nat) : Int) by omega]
    exact w64 (by omega)
theorem ok_c104 (G : Gl) (P : Nat) (lens : List Nat) (x : RS) (d : DC) (h : rsOK x ∧ decOK x.rel lens d) : cond_c104 G P lens x d := by
  unfold cond_c104
  obtain ⟨hx, hd⟩ := h
  have hb := hx.l.bk
  have h64 := hb.n
  have hcb := hd.cb
  have h60 := hd.good.sixty
  have hcm : bitI BinOp.and IntKind.u32 (IntKind.u32.wrap (x.bits : Int)) (d.cm : Int) = ((x.bits % 2 ^ d.cb : Nat) : Int) := by
    rw [hd.cm]; exact maskN (by omega)
  have hq : x.bits % 2 ^ d.cb < d.ch.length := by rw [hd.len]; exact Nat.mod_lt _ (Nat.pow_pos (by decide))
  have hcbw : IntKind.u64.wrap (d.cb : Int) = (d.cb : Int) := w64 (by omega)
  simp only [hcm, hcbw, br_d, br_i, rel_self, true_and, and_true, inRange, Int.toNat_natCast, ints_len]
  refine ⟨fun _ => .inl ⟨(), trivial⟩, fun _ => ⟨fun _ => .inl ⟨(), trivial⟩, fun _ => ⟨by omega, hq, fun w hw => ?_⟩⟩⟩
  obtain ⟨n, hn, rfl⟩ := ints_get hw
  by_cases hs : cl lens x.bits ≤ d.cb
  · have he := hd.short x.bits hs
    obtain rfl : cd lens x.bits * 32 + cl lens x.bits = n := Option.some.inj (he.symm.trans hn)
    have hcd := (cd_hit hd.good x.bits).1
    have hclp := cl_pos hd.good x.bits
    obtain ⟨l1, l2⟩ := low31 (k := cd lens x.bits) (n := cl lens x.bits) (by omega) (by omega)
    simp only [l1, l2, w64 (show cl lens x.bits < 2 ^ 64 by omega), w64 (show cd lens x.bits < 2 ^ 64 by omega)]
    refine ⟨fun _ => .inl ⟨(), trivial⟩, fun h2 => ⟨fun _ => .inl ⟨(), trivial⟩, fun h3 => ⟨by omega, by decide, .inr ?_⟩⟩⟩
    have hv := bk_val hb (nb := cl lens x.bits) (by omega)
    have e1 := cd_same hd.good (v := x.bits) (w := x.W) hv
    have e2 : cl lens x.W = cl lens x.bits := by unfold cl; rw [e1]
    rw [e1, e2]
    refine ⟨_, rs_take (v := ⟨x.off, x.bits, x.num, x.pk, x.pkn, x.dis, x.fed, x.pos, x.bv, x.bn, x.arr, x.prev⟩) hx (n := cl lens x.bits) (by dsimp only; omega), rfl, rfl, ?_, ?_, ⟨rfl, rfl⟩, rfl, rfl, rfl, rfl, rfl, ⟨rfl, rfl⟩, rfl⟩
    · rw [shrN, show min (cl lens x.bits) IntKind.u64.bits = cl lens x.bits by simp only [IntKind.bits]; omega]
    · rw [show (x.num : Int) - (cl lens x.bits : Int) = ((x.num - cl lens x.bits : Nat) : Int) by omega]
      exact w64 (by omega)
  · obtain ⟨k, sl, tb, lb, h1, hk, _⟩ := hd.long x.bits (by omega)
    obtain rfl : k * 32 + (d.cb + 1) = n := Option.some.inj (h1.symm.trans hn)
    obtain ⟨l1, l2⟩ := low31 (k := k) (n := d.cb + 1) (by omega) (by omega)
    simp only [l1, w64 (show d.cb + 1 < 2 ^ 64 by omega)]
    exact ⟨fun _ => .inl ⟨(), trivial⟩, fun h2 => ⟨fun _ => .inl ⟨(), trivial⟩, fun h3 => absurd h3 (by omega)⟩⟩
theorem ok_c23 (G : Gl) (m : Fz) (rel : Rel TT) (v : Value) (l : List Pt) (w : Value) (k : List Pt) (h : alikeOK rel l k) : cond_c23 G m rel v l w k := by
  unfold cond_c23
  simp only [rel_self, true_and, and_true, inRange, inI64, Int.toNat_natCast]
  obtain ⟨h60, its, k10, k8⟩ := h
  have hlen : l.length = k.length := (itsOK_len k10).symm.trans (itsOK_len k8)
  refine br_mk (fun hc => absurd hc (by rw [hlen]; simp)) fun _ => ⟨0, Nat.zero_le _, rfl, fun i hi => br_mk (fun h1 => ?_) (fun _ => ⟨(), trivial⟩)⟩
  have hi' : i < l.length := by
    have := of_decide_eq_true h1
    omega
  have hi8 : i < k.length := by omega
  have c1 : 0 ≤ (i : Int) ∧ (i : Int) < (l.length : Int) := by omega
  have c2 : 0 ≤ (i : Int) ∧ (i : Int) < (k.length : Int) := by omega
  refine ⟨c1, hi', hi', fun p hp => ⟨c2, hi8, hi8, fun q hq => ?_⟩⟩
  obtain ⟨it, hit, p1, p2, p3⟩ := itsOK_get k10 hp
  obtain ⟨it', hit', q1, q2, q3⟩ := itsOK_get k8 hq
  obtain rfl : it = it' := Option.some.inj (hit.symm.trans hit')
  refine br_mk (fun hc => absurd hc (by rw [p1, q1]; simp)) fun _ => ⟨c1, hi', hi', fun p' hp' => ?_⟩
  obtain rfl := Option.some.inj (hp.symm.trans hp')
  refine br_mk (fun _ => ⟨c1, hi', hi', fun p' hp' => ⟨c2, hi8, hi8, fun q' hq' => ?_⟩⟩) (fun _ => ⟨c1, hi', hi', fun p' hp' => ?_⟩)
  · obtain rfl := Option.some.inj (hp.symm.trans hp')
    obtain rfl := Option.some.inj (hq.symm.trans hq')
    refine br_mk (fun hc => absurd hc (by rw [p2, q2]; simp)) fun _ => ⟨c1, hi', hi', fun p' hp' => ?_⟩
    obtain rfl := Option.some.inj (hp.symm.trans hp')
    refine ⟨ints it.s, p3, fun _ => ⟨bytes_ints _, c2, hi8, hi8, fun q' hq' => ?_⟩⟩
    obtain rfl := Option.some.inj (hq.symm.trans hq')
    exact ⟨ints it.s, q3, fun _ => ⟨bytes_ints _, br_mk (fun hc => absurd hc (by simp)) fun _ => ⟨⟨by omega, by omega⟩, i + 1, ⟨by omega, by omega⟩, rfl⟩⟩⟩
  · obtain rfl := Option.some.inj (hp.symm.trans hp')
    refine ⟨ints it.s, p3, fun _ => ⟨bytes_ints _, c2, hi8, hi8, fun q' hq' => ?_⟩⟩
    obtain rfl := Option.some.inj (hq.symm.trans hq')
    exact ⟨ints it.s, q3, fun _ => ⟨bytes_ints _, br_mk (fun hc => absurd hc (by simp)) fun _ => ⟨⟨by omega, by omega⟩, i + 1, ⟨by omega, by omega⟩, rfl⟩⟩⟩
theorem s102 (G : Gl) (P : Nat) : SpecOK (CC G) 102 (c102 P).pt := specH G 4 (no_ok G) (fn := Tryz.f102) rfl NA (c102 P) (fun _ => noAnn) fun ⟨x, n⟩ h => Met.of (eq_c102 G P x n) (ok_c102 G P x n h)
theorem s104 (G : Gl) (P : Nat) (lens : List Nat) : SpecOK (CC G) 104 (c104 P lens).pt := specH G 4 (no_ok G) (fn := Tryz.f104) rfl NA (c104 P lens) (fun _ => noAnn) fun ⟨x, d⟩ h => Met.of (eq_c104 G P lens x d) (ok_c104 G P lens x d h)
theorem s23 (G : Gl) : SpecOK (CC G) 23 c23.pt := spec G (no_ok G) (fn := Tryz.f23) rfl NA c23 (fun x => a23 x.2.2.2.1) fun ⟨m, rel, v, l, w, k⟩ h => Met.of (eq_c23 G m rel v l w k) (ok_c23 G m rel v l w k h)
end Pc
/-
  Rows that Decoder.Init makes.
-/
set_option linter.unusedVariables false
set_option maxRecDepth 100000
open Go Go.Vg Go.Proofs
namespace Pc
def cond_c114 (G : Gl) (m : Fz) (rel : Rel TT) (n : Nat) : Prop :=
 Br (decide ((0 : Int) ≥ (↑n : Int)))
 (∃ x1 : (List (Tys.El TT 43)), (isRo rel 43 (Value.slice none 0 0) x1) ∧ 
 (((0 : Nat) = List.length x1) → 
 ((0 : Int) ≤ (0 : Int) ∧ (0 : Int) ≤ (↑n : Int) ∧ (↑n : Int) ≤ (0 : Int)) ∧ 
 ∃ x2 : (Value), (True) ∧ 
 False /- "match: values of two makes" -/))
 ((inI64 ((↑n : Int) * (3 : Int))) ∧ 
 ((2 : Int) ≠ (0 : Int)) ∧ 
 ((0 : Int) ≤ (↑n : Int) ∧ (↑n : Int) ≤ IntKind.wrap IntKind.i64 (Int.tdiv ((↑n : Int) * (3 : Int)) (2 : Int)) ∧ room (Int.toNat (IntKind.wrap IntKind.i64 (Int.tdiv ((↑n : Int) * (3 : Int)) (2 : Int)))) 4) ∧ 
 ∀ x1 : (Value), ∃ x2 : (Value), (True) ∧ 
 (x1 = x2 ∧ Int.toNat (↑n : Int) = n) ∧ 
 (m = m) ∧ (relLe rel rel) ∧ 
 (x1 = x2 ∧ List.replicate (Int.toNat (↑n : Int)) (0 : Int) = ints (List.replicate n 0)) ∧ 
 (True))
noncomputable def law_c114 (G : Gl) (m : Fz) (rel : Rel TT) (n : Nat) : VCT := fnx (CT G) no noAnn Tryz.f114 (c114.args (m, rel, n)) (c114.H (m, rel, n)) (outK false 2 (c114.ret (m, rel, n))) (c114.pan (m, rel, n))
theorem eq_c114 (G : Gl) (m : Fz) (rel : Rel TT) (n : Nat) : cond_c114 G m rel n = (law_c114 G m rel n).den := by kernel_rfl
def cond_c142 (G : Gl) (m : Fz) (rel : Rel TT) (n : Nat) : Prop :=
 Br (decide ((0 : Int) ≥ (↑n : Int)))
 (((0 : Int) = (0 : Int) ∧ (↑n : Int) = (0 : Int)) ∧ 
 ∃ x1 : (Value), (True) ∧ 
 False /- "match: values of two makes" -/)
 ((inI64 ((↑n : Int) * (3 : Int))) ∧ 
 ((2 : Int) ≠ (0 : Int)) ∧ 
 ((0 : Int) ≤ (↑n : Int) ∧ (↑n : Int) ≤ IntKind.wrap IntKind.i64 (Int.tdiv ((↑n : Int) * (3 : Int)) (2 : Int)) ∧ room (Int.toNat (IntKind.wrap IntKind.i64 (Int.tdiv ((↑n : Int) * (3 : Int)) (2 : Int)))) 24) ∧ 
 ∀ x1 : (Value), ((0 : Int) = (0 : Int) ∧ (0 : Int) = (0 : Int)) ∧ 
 (x1 = x1 ∧ Int.toNat (↑n : Int) = List.length (List.replicate (Int.toNat (↑n : Int)) (Sl.mk none 0 0))) ∧ 
 ∃ x2 : (Value), (True) ∧ 
 (x1 = x2 ∧ Int.toNat (↑n : Int) = n) ∧ 
 (m = m) ∧ (relLe rel rel) ∧ 
 (x1 = x2 ∧ List.take (min 0 (Int.toNat (↑n : Int))) [] ++ List.drop (min 0 (Int.toNat (↑n : Int))) (List.replicate (Int.toNat (↑n : Int)) (Sl.mk none 0 0)) = List.replicate n slN) ∧ 
 (True))
noncomputable def law_c142 (G : Gl) (m : Fz) (rel : Rel TT) (n : Nat) : VCT := fnx (CT G) no noAnn Tryz.f142 (c142.args (m, rel, n)) (c142.H (m, rel, n)) (outK false 2 (c142.ret (m, rel, n))) (c142.pan (m, rel, n))
theorem eq_c142 (G : Gl) (m : Fz) (rel : Rel TT) (n : Nat) : cond_c142 G m rel n = (law_c142 G m rel n).den := by kernel_rfl
theorem ok_c114 (G : Gl) (m : Fz) (rel : Rel TT) (n : Nat) (h : 0 < n ∧ n ≤ 1000000) : cond_c114 G m rel n := by
  unfold cond_c114
  have e1 : IntKind.i64.wrap (Int.tdiv ((n : Int) * 3) 2) = ((n * 3 / 2 : Nat) : Int) := by
    rw [Int.tdiv_eq_ediv_of_nonneg (by omega), wrI (by omega) (by omega)]; omega
  simp only [e1, br_d, inI64, room, Int.toNat_natCast, rel_self, true_and, and_true]
  refine ⟨fun h0 => by omega, fun _ => ⟨by omega, by decide, by omega, fun w => ⟨w, rfl, rfl, ?_⟩⟩⟩
  simp [ints]
theorem ok_c142 (G : Gl) (m : Fz) (rel : Rel TT) (n : Nat) (h : 0 < n ∧ n ≤ 1000000) : cond_c142 G m rel n := by
  unfold cond_c142
  have e1 : IntKind.i64.wrap (Int.tdiv ((n : Int) * 3) 2) = ((n * 3 / 2 : Nat) : Int) := by
    rw [Int.tdiv_eq_ediv_of_nonneg (by omega), wrI (by omega) (by omega)]; omega
  simp only [e1, br_d, inI64, room, Int.toNat_natCast, rel_self, true_and, and_true]
  refine ⟨fun h0 => by omega, fun _ => ⟨by omega, by decide, by omega, fun w => ⟨by rw [List.length_replicate], w, rfl, rfl, ?_⟩⟩⟩
  simp [slN]
theorem s114 (G : Gl) : SpecOK (CC G) 114 c114.pt := specT G (fn := Tryz.f114) rfl c114 (fun _ => noAnn) fun ⟨m, rel, n⟩ h => Met.of (eq_c114 G m rel n) (ok_c114 G m rel n h)
theorem s142 (G : Gl) : SpecOK (CC G) 142 c142.pt := specT G (fn := Tryz.f142) rfl c142 (fun _ => noAnn) fun ⟨m, rel, n⟩ h => Met.of (eq_c142 G m rel n) (ok_c142 G m rel n h)
theorem b100_ok (G : Gl) : ∀ f pt, b100 f = some pt → SpecOK (CC G) f pt := by
  intro f pt h
  unfold b100 at h
  split at h
  · cases h; exact loc_ok (s114 G) _
  · cases h; exact loc_ok (s142 G) _
  · cases h
end Pc
/-
  Decoder.Init does what its contract says.
-/
set_option linter.unusedVariables false
set_option maxRecDepth 100000
open Go Go.Vg Go.Proofs
namespace Pc
def cond_c100 (G : Gl) (m : Fz) (rel : Rel TT) (db : Nat) (cv : Value) (lens : List Nat) : Prop :=
 Br (decide ((↑(List.length (canonL lens)) : Int) ≤ (1 : Int)))
 (Br ((↑(List.length (canonL lens)) : Int) == (0 : Int))
 ((db = db) ∧ ((0 : Int) = (0 : Int) ∧ (0 : Int) = (0 : Int)) ∧ 
 (db = db) ∧ ((0 : Int) = (0 : Int) ∧ (0 : Int) = (0 : Int)) ∧ 
 (db = db) ∧ (db = db) ∧ ∃ x1 : (DC × Rel TT), (relLe rel x1.2 ∧ decOK x1.2 lens x1.1) ∧ 
 (m = m) ∧ (relLe x1.2 rel) ∧ 
 (db = db) ∧ (Value.slice none 0 0 = Value.slice none 0 0 ∧ Value.slice none 0 0 = x1.1.cv ∧ ints x1.1.ch = []) ∧ 
 (Value.slice none 0 0 = Value.slice none 0 0 ∧ Value.slice none 0 0 = x1.1.lv ∧ x1.1.lk = []) ∧ 
 ((0 : Int) = (x1.1.cm : Int)) ∧ 
 ((0 : Int) = (x1.1.lm : Int)) ∧ 
 ((0 : Int) = (x1.1.cb : Int)) ∧ 
 ((0 : Int) = (x1.1.mb : Int)) ∧ 
 ((0 : Int) = (x1.1.ns : Int)) ∧ 
 (True))
 (Br ((↑(List.length (canonL lens)) : Int) == (1 : Int))
 ((inRange (0 : Int) (List.length (canonL lens))) ∧ 
 ((0 : Nat) < List.length (canonL lens)) ∧ 
 ((0 : Nat) < List.length (canonL lens)) ∧ 
 ∀ x1 : (Cd), (((canonL lens)[(0 : Nat)]? = some x1) → 
 Br (x1.len == (0 : Int))
 ((db = db) ∧ ((0 : Int) = (0 : Int) ∧ (0 : Int) = (0 : Int)) ∧ 
 (inRange (0 : Int) (List.length (canonL lens))) ∧ 
 ((0 : Nat) < List.length (canonL lens)) ∧ 
 ((0 : Nat) < List.length (canonL lens)) ∧ 
 ∀ x2 : (Cd), (((canonL lens)[(0 : Nat)]? = some x2) → 
 ((0 : Int) ≤ (5 : Int)) ∧ 
 ∀ x3 : (Nat), (SV.toV (T := TT) (SV.p 2 db (Off.lit 0)) = SV.toV (T := TT) (SV.p 2 db (Off.lit 0))) ∧ (SV.toV (T := TT) (SV.p 2 db (Off.lit 0)) = SV.toV (T := TT) (SV.p 2 db (Off.lit 0))) ∧ (SV.toV (T := TT) (SV.p 2 db (Off.lit 0)) = SV.toV (T := TT) (SV.p 2 db (Off.lit 0))) ∧ (SV.toV (T := TT) (SV.p 2 db (Off.add (Off.lit 0) 0)) = SV.toV (T := TT) (SV.p 2 db (Off.lit 0))) ∧ 
 (db = db) ∧ (SV.toV (T := TT) (SV.v (Value.slice none 0 0)) = SV.toV (T := TT) (SV.v (Value.slice none 0 0))) ∧ ((0 : Int) = (0 : Int) ∧ (0 : Int) = (0 : Int)) ∧ 
 (SV.toV (T := TT) (SV.v (Value.slice none 0 0)) = SV.toV (T := TT) (SV.v (Value.slice none 0 0))) ∧ (Value.slice (some (Addr.mk x3 0 none)) 1 1 = Value.slice (some (Addr.mk x3 0 none)) 1 1 ∧ (1 : Nat) = List.length [bitI BinOp.or IntKind.u32 (shlI IntKind.u32 x2.sym (5 : Int)) (0 : Int)]) ∧ 
 (room (List.length [bitI BinOp.or IntKind.u32 (shlI IntKind.u32 x2.sym (5 : Int)) (0 : Int)]) 4) ∧ 
 ∀ x4 : (Value), (SV.toV (T := TT) (SV.p 2 db (Off.lit 0)) = SV.toV (T := TT) (SV.p 2 db (Off.lit 0))) ∧ (db = db) ∧ (db = db) ∧ (x4 = x4) ∧ (List.length [bitI BinOp.or IntKind.u32 (shlI IntKind.u32 x2.sym (5 : Int)) (0 : Int)] = List.length [bitI BinOp.or IntKind.u32 (shlI IntKind.u32 x2.sym (5 : Int)) (0 : Int)] ∧ (0 : Int) ≤ (0 : Int) ∧ (0 : Int) ≤ (1 : Int) ∧ (1 : Int) ≤ (↑(List.length [bitI BinOp.or IntKind.u32 (shlI IntKind.u32 x2.sym (5 : Int)) (0 : Int)]) : Int)) ∧ 
 (db = db) ∧ ((0 : Int) = (0 : Int) ∧ (0 : Int) = (0 : Int)) ∧ 
 (db = db) ∧ (db = db) ∧ ∃ x5 : (DC × Rel TT), (relLe rel x5.2 ∧ decOK x5.2 lens x5.1) ∧ 
 (m = m) ∧ (relLe x5.2 (relAdd rel 43 (Value.slice (some (Addr.mk x3 0 none)) 1 1) [bitI BinOp.or IntKind.u32 (shlI IntKind.u32 x2.sym (5 : Int)) (0 : Int)])) ∧ 
 (db = db) ∧ False /- "match: values of two makes" -/))
 (False /- "an end that is not among the contract's" -/)))
 (False /- "an end that is not among the contract's" -/)))
 (∃ x1 : (Nat × Nat × Nat), (x1.1 ≤ List.length lens ∧ mmOK lens x1.1 (x1.2.1) (x1.2.2)) ∧ 
 ((0 : Int) = (x1.1 : Int)) ∧ 
 ((27 : Int) = (↑(x1.2.1) : Int)) ∧ 
 ((0 : Int) = (↑(x1.2.2) : Int)) ∧ 
 (m = m) ∧ (relLe rel rel) ∧ 
 (db = db) ∧ (Value.slice none 0 0 = Value.slice none 0 0) ∧ (Value.slice none 0 0 = Value.slice none 0 0) ∧ ((0 : Int) = (0 : Int)) ∧ ((0 : Int) = (0 : Int)) ∧ ((0 : Int) = (0 : Int)) ∧ ((0 : Int) = (0 : Int)) ∧ ((0 : Int) = (0 : Int)) ∧ ∀ x2 : (Nat × Nat × Nat), ((x2.1 ≤ List.length lens ∧ mmOK lens x2.1 (x2.2.1) (x2.2.2)) → 
 Br (decide ((x2.1 : Int) < (↑(List.length (canonL lens)) : Int)))
 ((inRange (x2.1 : Int) (List.length (canonL lens))) ∧ 
 (Int.toNat (x2.1 : Int) < List.length (canonL lens)) ∧ 
 ∀ x3 : (Cd), (((canonL lens)[Int.toNat (x2.1 : Int)]? = some x3) → 
 ∀ x4 : (Nat), (x4 = x4) ∧ (x4 = x4) ∧ Br (decide ((↑(x2.2.1) : Int) > x3.len))
 ((x4 = x4) ∧ (x4 = x4) ∧ Br (decide ((↑(x2.2.2) : Int) < x3.len))
 ((x4 = x4) ∧ (inI64 ((x2.1 : Int) + (1 : Int))) ∧ 
 ∃ x5 : (Nat × Nat × Nat), ((x5.1 ≤ List.length lens ∧ mmOK lens x5.1 (x5.2.1) (x5.2.2)) ∧ List.length lens - x5.1 < List.length lens - x2.1) ∧ 
 ((x2.1 : Int) + (1 : Int) = (x5.1 : Int)) ∧ 
 (x3.len = (↑(x5.2.1) : Int)) ∧ 
 (x3.len = (↑(x5.2.2) : Int)) ∧ 
 (m = m) ∧ (relLe rel rel) ∧ 
 (db = db) ∧ (Value.slice none 0 0 = Value.slice none 0 0) ∧ (Value.slice none 0 0 = Value.slice none 0 0) ∧ ((0 : Int) = (0 : Int)) ∧ ((0 : Int) = (0 : Int)) ∧ ((0 : Int) = (0 : Int)) ∧ ((0 : Int) = (0 : Int)) ∧ ((0 : Int) = (0 : Int)) ∧ (True))
 ((inI64 ((x2.1 : Int) + (1 : Int))) ∧ 
 ∃ x5 : (Nat × Nat × Nat), ((x5.1 ≤ List.length lens ∧ mmOK lens x5.1 (x5.2.1) (x5.2.2)) ∧ List.length lens - x5.1 < List.length lens - x2.1) ∧ 
 ((x2.1 : Int) + (1 : Int) = (x5.1 : Int)) ∧ 
 (x3.len = (↑(x5.2.1) : Int)) ∧ 
 ((↑(x2.2.2) : Int) = (↑(x5.2.2) : Int)) ∧ 
 (m = m) ∧ (relLe rel rel) ∧ 
 (db = db) ∧ (Value.slice none 0 0 = Value.slice none 0 0) ∧ (Value.slice none 0 0 = Value.slice none 0 0) ∧ ((0 : Int) = (0 : Int)) ∧ ((0 : Int) = (0 : Int)) ∧ ((0 : Int) = (0 : Int)) ∧ ((0 : Int) = (0 : Int)) ∧ ((0 : Int) = (0 : Int)) ∧ (True)))
 ((x4 = x4) ∧ Br (decide ((↑(x2.2.2) : Int) < x3.len))
 ((x4 = x4) ∧ (inI64 ((x2.1 : Int) + (1 : Int))) ∧ 
 ∃ x5 : (Nat × Nat × Nat), ((x5.1 ≤ List.length lens ∧ mmOK lens x5.1 (x5.2.1) (x5.2.2)) ∧ List.length lens - x5.1 < List.length lens - x2.1) ∧ 
 ((x2.1 : Int) + (1 : Int) = (x5.1 : Int)) ∧ 
 ((↑(x2.2.1) : Int) = (↑(x5.2.1) : Int)) ∧ 
 (x3.len = (↑(x5.2.2) : Int)) ∧ 
 (m = m) ∧ (relLe rel rel) ∧ 
 (db = db) ∧ (Value.slice none 0 0 = Value.slice none 0 0) ∧ (Value.slice none 0 0 = Value.slice none 0 0) ∧ ((0 : Int) = (0 : Int)) ∧ ((0 : Int) = (0 : Int)) ∧ ((0 : Int) = (0 : Int)) ∧ ((0 : Int) = (0 : Int)) ∧ ((0 : Int) = (0 : Int)) ∧ (True))
 ((inI64 ((x2.1 : Int) + (1 : Int))) ∧ 
 ∃ x5 : (Nat × Nat × Nat), ((x5.1 ≤ List.length lens ∧ mmOK lens x5.1 (x5.2.1) (x5.2.2)) ∧ List.length lens - x5.1 < List.length lens - x2.1) ∧ 
 ((x2.1 : Int) + (1 : Int) = (x5.1 : Int)) ∧ 
 ((↑(x2.2.1) : Int) = (↑(x5.2.1) : Int)) ∧ 
 ((↑(x2.2.2) : Int) = (↑(x5.2.2) : Int)) ∧ 
 (m = m) ∧ (relLe rel rel) ∧ 
 (db = db) ∧ (Value.slice none 0 0 = Value.slice none 0 0) ∧ (Value.slice none 0 0 = Value.slice none 0 0) ∧ ((0 : Int) = (0 : Int)) ∧ ((0 : Int) = (0 : Int)) ∧ ((0 : Int) = (0 : Int)) ∧ ((0 : Int) = (0 : Int)) ∧ ((0 : Int) = (0 : Int)) ∧ (True)))))
 ((db = db) ∧ (db = db) ∧ (db = db) ∧ ((db = db) ∧ Br (decide ((↑(x2.2.2) : Int) > (9 : Int)))
 ((db = db) ∧ ∃ x3 : (Nat), (x3 = min (Int.toNat (↑(x2.2.2) : Int)) 9) ∧ 
 (m = m) ∧ (relLe rel rel) ∧ 
 (db = db) ∧ 
 (Value.slice none 0 0 = Value.slice none 0 0) ∧ (Value.slice none 0 0 = Value.slice none 0 0) ∧ ((0 : Int) = (0 : Int)) ∧ ((0 : Int) = (0 : Int)) ∧ ((9 : Int) = (x3 : Int)) ∧ 
 ((↑(x2.2.1) : Int) = (↑(x2.2.1) : Int)) ∧ (IntKind.wrap IntKind.u32 (↑(List.length (canonL lens)) : Int) = IntKind.wrap IntKind.u32 (↑(List.length (canonL lens)) : Int)) ∧ (True))
 (∃ x3 : (Nat), (x3 = min (Int.toNat (↑(x2.2.2) : Int)) 9) ∧ 
 (m = m) ∧ (relLe rel rel) ∧ 
 (db = db) ∧ 
 (Value.slice none 0 0 = Value.slice none 0 0) ∧ (Value.slice none 0 0 = Value.slice none 0 0) ∧ ((0 : Int) = (0 : Int)) ∧ ((0 : Int) = (0 : Int)) ∧ ((↑(x2.2.2) : Int) = (x3 : Int)) ∧ 
 ((↑(x2.2.1) : Int) = (↑(x2.2.1) : Int)) ∧ (IntKind.wrap IntKind.u32 (↑(List.length (canonL lens)) : Int) = IntKind.wrap IntKind.u32 (↑(List.length (canonL lens)) : Int)) ∧ (True))) ∧
 (∀ x3 : (Nat), ((x3 = min (Int.toNat (↑(x2.2.2) : Int)) 9) → 
 (db = db) ∧ 
 ((0 : Int) ≤ (x3 : Int)) ∧ 
 (db = db) ∧ 
 ∀ x4 : (Nat → Option Obj), ((0 : Nat) < Int.toNat (shlI IntKind.i64 (1 : Int) (x3 : Int)) ∧ Int.toNat (shlI IntKind.i64 (1 : Int) (x3 : Int)) ≤ (1000000 : Nat)) ∧ 
 (Value.slice none 0 0 = Value.slice none 0 0 ∧ Value.slice none 0 0 = Value.slice none 0 0 ∧ (0 : Nat) = (0 : Nat)) ∧ 
 (shlI IntKind.i64 (1 : Int) (x3 : Int) = (↑(Int.toNat (shlI IntKind.i64 (1 : Int) (x3 : Int))) : Int)) ∧ 
 (x4 = x4) ∧ 
 (relLe rel rel) ∧ 
 ∀ x5 : (Value), ((True) → 
 (x4 = x4) ∧ 
 (db = db) ∧ 
 ((inI64 (shlI IntKind.i64 (1 : Int) (x3 : Int) - (1 : Int))) ∧ 
 (db = db) ∧ 
 ∃ x6 : (Nat × Nat × Nat), (mmOK lens (List.length lens) x6.1 (x6.2.1) ∧ x6.2.2 = min (x6.2.1) 9) ∧ 
 ((↑(x2.2.2) : Int) = (↑(x6.2.1) : Int)) ∧ 
 (m = m) ∧ (relLe rel rel) ∧ 
 (db = db) ∧ (x5 = x5 ∧ Int.toNat (shlI IntKind.i64 (1 : Int) (x3 : Int)) = (2 : Nat) ^ x6.2.2) ∧ 
 (Value.slice none 0 0 = Value.slice none 0 0) ∧ (IntKind.wrap IntKind.u32 (shlI IntKind.i64 (1 : Int) (x3 : Int) - (1 : Int)) = (↑((2 : Nat) ^ x6.2.2 - (1 : Nat)) : Int)) ∧ 
 ((0 : Int) = (0 : Int)) ∧ 
 ((x3 : Int) = (↑(x6.2.2) : Int)) ∧ 
 ((↑(x2.2.1) : Int) = (x6.1 : Int)) ∧ 
 (IntKind.wrap IntKind.u32 (↑(List.length (canonL lens)) : Int) = (↑(List.length lens) : Int)) ∧ 
 (x5 = x5 ∧ ints (List.replicate (Int.toNat (shlI IntKind.i64 (1 : Int) (x3 : Int))) 0) = ints (List.replicate ((2 : Nat) ^ x6.2.2) 0)) ∧ 
 (True)) ∧
 (∀ x6 : (Nat × Nat × Nat), ((mmOK lens (List.length lens) x6.1 (x6.2.1) ∧ x6.2.2 = min (x6.2.1) 9) → 
 (db = db) ∧ 
 ((0 : Int) = (0 : Int) ∧ (0 : Int) = (0 : Int)) ∧ 
 (db = db) ∧ 
 (db = db) ∧ 
 (db = db) ∧ 
 Br (decide ((↑(x6.2.2) : Int) < (↑(x6.2.1) : Int)))
 ((db = db) ∧ 
 ((0 : Int) ≤ IntKind.wrap IntKind.u32 ((↑(x6.2.1) : Int) - (↑(x6.2.2) : Int))) ∧ 
 ((inI64 (shlI IntKind.i64 (1 : Int) (IntKind.wrap IntKind.u32 ((↑(x6.2.1) : Int) - (↑(x6.2.2) : Int))) - (1 : Int))) ∧ 
 (db = db) ∧ 
 ∃ x7 : (Unit), (True) ∧ 
 (shlI IntKind.i64 (1 : Int) (IntKind.wrap IntKind.u32 ((↑(x6.2.1) : Int) - (↑(x6.2.2) : Int))) = (↑((2 : Nat) ^ (Int.toNat (↑(x6.2.1) : Int) - Int.toNat (↑(x6.2.2) : Int))) : Int)) ∧ 
 (m = m) ∧ (relLe rel rel) ∧ 
 (db = db) ∧ (x5 = x5 ∧ (2 : Nat) ^ x6.2.2 = (2 : Nat) ^ Int.toNat (↑(x6.2.2) : Int)) ∧ 
 (Value.slice none 0 0 = Value.slice none 0 0) ∧ ((↑((2 : Nat) ^ x6.2.2 - (1 : Nat)) : Int) = (↑((2 : Nat) ^ Int.toNat (↑(x6.2.2) : Int) - (1 : Nat)) : Int)) ∧ 
 (IntKind.wrap IntKind.u32 (shlI IntKind.i64 (1 : Int) (IntKind.wrap IntKind.u32 ((↑(x6.2.1) : Int) - (↑(x6.2.2) : Int))) - (1 : Int)) = (↑((2 : Nat) ^ (Int.toNat (↑(x6.2.1) : Int) - Int.toNat (↑(x6.2.2) : Int)) - (1 : Nat)) : Int)) ∧ 
 ((↑(x6.2.2) : Int) = (↑(Int.toNat (↑(x6.2.2) : Int)) : Int)) ∧ 
 ((x6.1 : Int) = (↑(Int.toNat (x6.1 : Int)) : Int)) ∧ 
 ((↑(List.length lens) : Int) = (↑(List.length lens) : Int)) ∧ (x5 = x5 ∧ ints (List.replicate ((2 : Nat) ^ x6.2.2) 0) = ints (List.replicate ((2 : Nat) ^ x6.2.2) 0)) ∧ 
 (True)) ∧
 (∀ x7 : (Unit), ((True) → 
 (db = db) ∧ 
 ∃ x8 : (Nat), (x8 ≤ List.length (ints (List.replicate ((2 : Nat) ^ x6.2.2) 0))) ∧ 
 ((0 : Int) = (x8 : Int)) ∧ 
 (m = m) ∧ (relLe rel rel) ∧ 
 (db = db) ∧ (x5 = x5 ∧ (2 : Nat) ^ Int.toNat (↑(x6.2.2) : Int) = (2 : Nat) ^ Int.toNat (↑(x6.2.2) : Int)) ∧ 
 (Value.slice none 0 0 = Value.slice none 0 0) ∧ ((↑((2 : Nat) ^ Int.toNat (↑(x6.2.2) : Int) - (1 : Nat)) : Int) = (↑((2 : Nat) ^ Int.toNat (↑(x6.2.2) : Int) - (1 : Nat)) : Int)) ∧ ((↑((2 : Nat) ^ (Int.toNat (↑(x6.2.1) : Int) - Int.toNat (↑(x6.2.2) : Int)) - (1 : Nat)) : Int) = (↑((2 : Nat) ^ (Int.toNat (↑(x6.2.1) : Int) - Int.toNat (↑(x6.2.2) : Int)) - (1 : Nat)) : Int)) ∧ ((↑(Int.toNat (↑(x6.2.2) : Int)) : Int) = (↑(Int.toNat (↑(x6.2.2) : Int)) : Int)) ∧ ((↑(Int.toNat (x6.1 : Int)) : Int) = (↑(Int.toNat (x6.1 : Int)) : Int)) ∧ ((↑(List.length lens) : Int) = (↑(List.length lens) : Int)) ∧ (x5 = x5 ∧ ints (List.replicate ((2 : Nat) ^ x6.2.2) 0) = ints (List.replicate ((2 : Nat) ^ x6.2.2) 0)) ∧ 
 ∀ x9 : (Nat), ((x9 ≤ List.length (ints (List.replicate ((2 : Nat) ^ x6.2.2) 0))) → 
 Br (decide ((x9 : Int) < (↑((2 : Nat) ^ Int.toNat (↑(x6.2.2) : Int)) : Int)))
 ((db = db) ∧ 
 (x5 = x5) ∧ (inRange (x9 : Int) (List.length (ints (List.replicate ((2 : Nat) ^ x6.2.2) 0)))) ∧ 
 (x5 = x5 ∧ Int.toNat (x9 : Int) < List.length (ints (List.replicate ((2 : Nat) ^ x6.2.2) 0))) ∧ 
 (inI64 ((x9 : Int) + (1 : Int))) ∧ 
 ∃ x10 : (Nat), (x10 ≤ List.length (ints (List.replicate ((2 : Nat) ^ x6.2.2) 0)) ∧ List.length (ints (List.replicate ((2 : Nat) ^ x6.2.2) 0)) - x10 < List.length (ints (List.replicate ((2 : Nat) ^ x6.2.2) 0)) - x9) ∧ 
 ((x9 : Int) + (1 : Int) = (x10 : Int)) ∧ 
 (m = m) ∧ (relLe rel rel) ∧ 
 (db = db) ∧ (x5 = x5 ∧ (2 : Nat) ^ Int.toNat (↑(x6.2.2) : Int) = (2 : Nat) ^ Int.toNat (↑(x6.2.2) : Int)) ∧ 
 (Value.slice none 0 0 = Value.slice none 0 0) ∧ ((↑((2 : Nat) ^ Int.toNat (↑(x6.2.2) : Int) - (1 : Nat)) : Int) = (↑((2 : Nat) ^ Int.toNat (↑(x6.2.2) : Int) - (1 : Nat)) : Int)) ∧ ((↑((2 : Nat) ^ (Int.toNat (↑(x6.2.1) : Int) - Int.toNat (↑(x6.2.2) : Int)) - (1 : Nat)) : Int) = (↑((2 : Nat) ^ (Int.toNat (↑(x6.2.1) : Int) - Int.toNat (↑(x6.2.2) : Int)) - (1 : Nat)) : Int)) ∧ ((↑(Int.toNat (↑(x6.2.2) : Int)) : Int) = (↑(Int.toNat (↑(x6.2.2) : Int)) : Int)) ∧ ((↑(Int.toNat (x6.1 : Int)) : Int) = (↑(Int.toNat (x6.1 : Int)) : Int)) ∧ ((↑(List.length lens) : Int) = (↑(List.length lens) : Int)) ∧ (x5 = x5 ∧ List.set (ints (List.replicate ((2 : Nat) ^ x6.2.2) 0)) (Int.toNat (x9 : Int)) (0 : Int) = ints (List.replicate ((2 : Nat) ^ x6.2.2) 0)) ∧ 
 (True))
 (∃ x10 : (Nat × List Nat × Nat), (x10.1 ≤ List.length lens ∧ linkOK lens (Int.toNat (↑(Int.toNat (↑(x6.2.2) : Int)) : Int)) x10.1 (x10.2.1) (x10.2.2)) ∧ 
 ((0 : Int) = (x10.1 : Int)) ∧ 
 ((0 : Int) = (↑(x10.2.2) : Int)) ∧ 
 (m = m) ∧ (relLe rel rel) ∧ 
 (db = db) ∧ (x5 = x5 ∧ (2 : Nat) ^ Int.toNat (↑(x6.2.2) : Int) = (2 : Nat) ^ Int.toNat (↑(x6.2.2) : Int)) ∧ 
 (Value.slice none 0 0 = Value.slice none 0 0) ∧ ((↑((2 : Nat) ^ Int.toNat (↑(x6.2.2) : Int) - (1 : Nat)) : Int) = (↑((2 : Nat) ^ Int.toNat (↑(x6.2.2) : Int) - (1 : Nat)) : Int)) ∧ ((↑((2 : Nat) ^ (Int.toNat (↑(x6.2.1) : Int) - Int.toNat (↑(x6.2.2) : Int)) - (1 : Nat)) : Int) = (↑((2 : Nat) ^ (Int.toNat (↑(x6.2.1) : Int) - Int.toNat (↑(x6.2.2) : Int)) - (1 : Nat)) : Int)) ∧ ((↑(Int.toNat (↑(x6.2.2) : Int)) : Int) = (↑(Int.toNat (↑(x6.2.2) : Int)) : Int)) ∧ ((↑(Int.toNat (x6.1 : Int)) : Int) = (↑(Int.toNat (x6.1 : Int)) : Int)) ∧ ((↑(List.length lens) : Int) = (↑(List.length lens) : Int)) ∧ (x5 = x5 ∧ ints (List.replicate ((2 : Nat) ^ x6.2.2) 0) = ints (x10.2.1)) ∧ 
 ∀ x11 : (Nat × List Nat × Nat), ((x11.1 ≤ List.length lens ∧ linkOK lens (Int.toNat (↑(Int.toNat (↑(x6.2.2) : Int)) : Int)) x11.1 (x11.2.1) (x11.2.2)) → 
 Br (decide ((x11.1 : Int) < (↑(List.length (canonL lens)) : Int)))
 ((inRange (x11.1 : Int) (List.length (canonL lens))) ∧ 
 (Int.toNat (x11.1 : Int) < List.length (canonL lens)) ∧ 
 ∀ x12 : (Cd), (((canonL lens)[Int.toNat (x11.1 : Int)]? = some x12) → 
 ∀ x13 : (Nat), (x13 = x13) ∧ (x13 = x13) ∧ (db = db) ∧ 
 Br (decide (x12.len > (↑(Int.toNat (↑(x6.2.2) : Int)) : Int)))
 ((db = db) ∧ 
 (x13 = x13) ∧ (db = db) ∧ 
 (x5 = x5) ∧ (inRange (bitI BinOp.and IntKind.u32 x12.val (↑((2 : Nat) ^ Int.toNat (↑(x6.2.2) : Int) - (1 : Nat)) : Int)) (List.length (ints (x11.2.1)))) ∧ 
 (x5 = x5) ∧ (Int.toNat (bitI BinOp.and IntKind.u32 x12.val (↑((2 : Nat) ^ Int.toNat (↑(x6.2.2) : Int) - (1 : Nat)) : Int)) < List.length (ints (x11.2.1))) ∧ 
 ∀ x14 : (Int), (((ints (x11.2.1))[Int.toNat (bitI BinOp.and IntKind.u32 x12.val (↑((2 : Nat) ^ Int.toNat (↑(x6.2.2) : Int) - (1 : Nat)) : Int))]? = some x14) → 
 Br (x14 == (0 : Int))
 ((db = db) ∧ 
 (x13 = x13) ∧ (db = db) ∧ 
 ((0 : Int) ≤ (5 : Int)) ∧ 
 (db = db) ∧ 
 (x5 = x5) ∧ (inRange (bitI BinOp.and IntKind.u32 x12.val (↑((2 : Nat) ^ Int.toNat (↑(x6.2.2) : Int) - (1 : Nat)) : Int)) (List.length (ints (x11.2.1)))) ∧ 
 (x5 = x5 ∧ Int.toNat (bitI BinOp.and IntKind.u32 x12.val (↑((2 : Nat) ^ Int.toNat (↑(x6.2.2) : Int) - (1 : Nat)) : Int)) < List.length (ints (x11.2.1))) ∧ 
 (inI64 ((x11.1 : Int) + (1 : Int))) ∧ 
 ∃ x15 : (Nat × List Nat × Nat), ((x15.1 ≤ List.length lens ∧ linkOK lens (Int.toNat (↑(Int.toNat (↑(x6.2.2) : Int)) : Int)) x15.1 (x15.2.1) (x15.2.2)) ∧ List.length lens - x15.1 < List.length lens - x11.1) ∧ 
 ((x11.1 : Int) + (1 : Int) = (x15.1 : Int)) ∧ 
 (IntKind.wrap IntKind.u32 ((↑(x11.2.2) : Int) + (1 : Int)) = (↑(x15.2.2) : Int)) ∧ 
 (m = m) ∧ (relLe rel rel) ∧ 
 (db = db) ∧ (x5 = x5 ∧ (2 : Nat) ^ Int.toNat (↑(x6.2.2) : Int) = (2 : Nat) ^ Int.toNat (↑(x6.2.2) : Int)) ∧ 
 (Value.slice none 0 0 = Value.slice none 0 0) ∧ ((↑((2 : Nat) ^ Int.toNat (↑(x6.2.2) : Int) - (1 : Nat)) : Int) = (↑((2 : Nat) ^ Int.toNat (↑(x6.2.2) : Int) - (1 : Nat)) : Int)) ∧ ((↑((2 : Nat) ^ (Int.toNat (↑(x6.2.1) : Int) - Int.toNat (↑(x6.2.2) : Int)) - (1 : Nat)) : Int) = (↑((2 : Nat) ^ (Int.toNat (↑(x6.2.1) : Int) - Int.toNat (↑(x6.2.2) : Int)) - (1 : Nat)) : Int)) ∧ ((↑(Int.toNat (↑(x6.2.2) : Int)) : Int) = (↑(Int.toNat (↑(x6.2.2) : Int)) : Int)) ∧ ((↑(Int.toNat (x6.1 : Int)) : Int) = (↑(Int.toNat (x6.1 : Int)) : Int)) ∧ ((↑(List.length lens) : Int) = (↑(List.length lens) : Int)) ∧ (x5 = x5 ∧ List.set (ints (x11.2.1)) (Int.toNat (bitI BinOp.and IntKind.u32 x12.val (↑((2 : Nat) ^ Int.toNat (↑(x6.2.2) : Int) - (1 : Nat)) : Int))) (bitI BinOp.or IntKind.u32 (shlI IntKind.u32 (↑(x11.2.2) : Int) (5 : Int)) (IntKind.wrap IntKind.u32 ((↑(Int.toNat (↑(x6.2.2) : Int)) : Int) + (1 : Int)))) = ints (x15.2.1)) ∧ 
 (True))
 ((inI64 ((x11.1 : Int) + (1 : Int))) ∧ 
 ∃ x15 : (Nat × List Nat × Nat), ((x15.1 ≤ List.length lens ∧ linkOK lens (Int.toNat (↑(Int.toNat (↑(x6.2.2) : Int)) : Int)) x15.1 (x15.2.1) (x15.2.2)) ∧ List.length lens - x15.1 < List.length lens - x11.1) ∧ 
 ((x11.1 : Int) + (1 : Int) = (x15.1 : Int)) ∧ 
 ((↑(x11.2.2) : Int) = (↑(x15.2.2) : Int)) ∧ 
 (m = m) ∧ (relLe rel rel) ∧ 
 (db = db) ∧ (x5 = x5 ∧ (2 : Nat) ^ Int.toNat (↑(x6.2.2) : Int) = (2 : Nat) ^ Int.toNat (↑(x6.2.2) : Int)) ∧ 
 (Value.slice none 0 0 = Value.slice none 0 0) ∧ ((↑((2 : Nat) ^ Int.toNat (↑(x6.2.2) : Int) - (1 : Nat)) : Int) = (↑((2 : Nat) ^ Int.toNat (↑(x6.2.2) : Int) - (1 : Nat)) : Int)) ∧ ((↑((2 : Nat) ^ (Int.toNat (↑(x6.2.1) : Int) - Int.toNat (↑(x6.2.2) : Int)) - (1 : Nat)) : Int) = (↑((2 : Nat) ^ (Int.toNat (↑(x6.2.1) : Int) - Int.toNat (↑(x6.2.2) : Int)) - (1 : Nat)) : Int)) ∧ ((↑(Int.toNat (↑(x6.2.2) : Int)) : Int) = (↑(Int.toNat (↑(x6.2.2) : Int)) : Int)) ∧ ((↑(Int.toNat (x6.1 : Int)) : Int) = (↑(Int.toNat (x6.1 : Int)) : Int)) ∧ ((↑(List.length lens) : Int) = (↑(List.length lens) : Int)) ∧ (x5 = x5 ∧ ints (x11.2.1) = ints (x15.2.1)) ∧ 
 (True))))
 ((inI64 ((x11.1 : Int) + (1 : Int))) ∧ 
 ∃ x14 : (Nat × List Nat × Nat), ((x14.1 ≤ List.length lens ∧ linkOK lens (Int.toNat (↑(Int.toNat (↑(x6.2.2) : Int)) : Int)) x14.1 (x14.2.1) (x14.2.2)) ∧ List.length lens - x14.1 < List.length lens - x11.1) ∧ 
 ((x11.1 : Int) + (1 : Int) = (x14.1 : Int)) ∧ 
 ((↑(x11.2.2) : Int) = (↑(x14.2.2) : Int)) ∧ 
 (m = m) ∧ (relLe rel rel) ∧ 
 (db = db) ∧ (x5 = x5 ∧ (2 : Nat) ^ Int.toNat (↑(x6.2.2) : Int) = (2 : Nat) ^ Int.toNat (↑(x6.2.2) : Int)) ∧ 
 (Value.slice none 0 0 = Value.slice none 0 0) ∧ ((↑((2 : Nat) ^ Int.toNat (↑(x6.2.2) : Int) - (1 : Nat)) : Int) = (↑((2 : Nat) ^ Int.toNat (↑(x6.2.2) : Int) - (1 : Nat)) : Int)) ∧ ((↑((2 : Nat) ^ (Int.toNat (↑(x6.2.1) : Int) - Int.toNat (↑(x6.2.2) : Int)) - (1 : Nat)) : Int) = (↑((2 : Nat) ^ (Int.toNat (↑(x6.2.1) : Int) - Int.toNat (↑(x6.2.2) : Int)) - (1 : Nat)) : Int)) ∧ ((↑(Int.toNat (↑(x6.2.2) : Int)) : Int) = (↑(Int.toNat (↑(x6.2.2) : Int)) : Int)) ∧ ((↑(Int.toNat (x6.1 : Int)) : Int) = (↑(Int.toNat (x6.1 : Int)) : Int)) ∧ ((↑(List.length lens) : Int) = (↑(List.length lens) : Int)) ∧ (x5 = x5 ∧ ints (x11.2.1) = ints (x14.2.1)) ∧ 
 (True))))
 ((db = db) ∧ 
 (inI64 (↑(x11.2.2) : Int)) ∧ 
 ∀ x12 : (Nat → Option Obj), ((0 : Nat) < Int.toNat (↑(x11.2.2) : Int) ∧ Int.toNat (↑(x11.2.2) : Int) ≤ (1000000 : Nat)) ∧ 
 (Value.slice none 0 0 = Value.slice none 0 0) ∧ ((↑(x11.2.2) : Int) = (↑(Int.toNat (↑(x11.2.2) : Int)) : Int)) ∧ 
 (x12 = x12) ∧ 
 (relLe rel rel) ∧ 
 ∀ x13 : (Value), ((True) → 
 (x12 = x12) ∧ 
 (db = db) ∧ 
 (db = db) ∧ 
 (x13 = x13) ∧ (inRange (0 : Int) (List.length (List.replicate (Int.toNat (↑(x11.2.2) : Int)) slN))) ∧ 
 (x13 = x13) ∧ ((0 : Nat) < List.length (List.replicate (Int.toNat (↑(x11.2.2) : Int)) slN)) ∧ 
 ∀ x14 : (Sl), (((List.replicate (Int.toNat (↑(x11.2.2) : Int)) slN)[(0 : Nat)]? = some x14) → 
 (inI64 (↑(x11.2.2) : Int)) ∧ 
 (inI64 ((↑((2 : Nat) ^ (Int.toNat (↑(x6.2.1) : Int) - Int.toNat (↑(x6.2.2) : Int))) : Int) * (↑(x11.2.2) : Int))) ∧ 
 ∀ x15 : (Nat → Option Obj), ((0 : Nat) < Int.toNat ((↑((2 : Nat) ^ (Int.toNat (↑(x6.2.1) : Int) - Int.toNat (↑(x6.2.2) : Int))) : Int) * (↑(x11.2.2) : Int)) ∧ Int.toNat ((↑((2 : Nat) ^ (Int.toNat (↑(x6.2.1) : Int) - Int.toNat (↑(x6.2.2) : Int))) : Int) * (↑(x11.2.2) : Int)) ≤ (1000000 : Nat)) ∧ 
 (Value.slice (Sl.A x14) x14.n x14.cap = Value.slice none 0 0 ∧ x14.n = (0 : Nat)) ∧ 
 ((↑((2 : Nat) ^ (Int.toNat (↑(x6.2.1) : Int) - Int.toNat (↑(x6.2.2) : Int))) : Int) * (↑(x11.2.2) : Int) = (↑(Int.toNat ((↑((2 : Nat) ^ (Int.toNat (↑(x6.2.1) : Int) - Int.toNat (↑(x6.2.2) : Int))) : Int) * (↑(x11.2.2) : Int))) : Int)) ∧ 
 (x15 = x15) ∧ 
 (relLe rel rel) ∧ 
 ∀ x16 : (Value), ((True) → 
 (x15 = x15) ∧ 
 ∃ x17 : (Nat × List Sl), (x17.1 ≤ Int.toNat (↑(x11.2.2) : Int) ∧ links x16 (Int.toNat (↑((2 : Nat) ^ (Int.toNat (↑(x6.2.1) : Int) - Int.toNat (↑(x6.2.2) : Int))) : Int)) (Int.toNat (↑(x11.2.2) : Int)) x17.1 x17.2) ∧ 
 ((0 : Int) = (x17.1 : Int)) ∧ 
 ((0 : Int) = (↑(x17.1 * Int.toNat (↑((2 : Nat) ^ (Int.toNat (↑(x6.2.1) : Int) - Int.toNat (↑(x6.2.2) : Int))) : Int)) : Int)) ∧ 
 (m = m) ∧ (relLe rel rel) ∧ 
 (db = db) ∧ (x5 = x5 ∧ (2 : Nat) ^ Int.toNat (↑(x6.2.2) : Int) = (2 : Nat) ^ Int.toNat (↑(x6.2.2) : Int)) ∧ 
 (x13 = x13 ∧ Int.toNat (↑(x11.2.2) : Int) = Int.toNat (↑(x11.2.2) : Int)) ∧ 
 ((↑((2 : Nat) ^ Int.toNat (↑(x6.2.2) : Int) - (1 : Nat)) : Int) = (↑((2 : Nat) ^ Int.toNat (↑(x6.2.2) : Int) - (1 : Nat)) : Int)) ∧ ((↑((2 : Nat) ^ (Int.toNat (↑(x6.2.1) : Int) - Int.toNat (↑(x6.2.2) : Int)) - (1 : Nat)) : Int) = (↑((2 : Nat) ^ (Int.toNat (↑(x6.2.1) : Int) - Int.toNat (↑(x6.2.2) : Int)) - (1 : Nat)) : Int)) ∧ ((↑(Int.toNat (↑(x6.2.2) : Int)) : Int) = (↑(Int.toNat (↑(x6.2.2) : Int)) : Int)) ∧ ((↑(Int.toNat (x6.1 : Int)) : Int) = (↑(Int.toNat (x6.1 : Int)) : Int)) ∧ ((↑(List.length lens) : Int) = (↑(List.length lens) : Int)) ∧ (x5 = x5 ∧ ints (x11.2.1) = ints (x11.2.1)) ∧ 
 (x13 = x13 ∧ List.replicate (Int.toNat (↑(x11.2.2) : Int)) slN = x17.2) ∧ 
 (x16 = x16 ∧ ints (List.replicate (Int.toNat ((↑((2 : Nat) ^ (Int.toNat (↑(x6.2.1) : Int) - Int.toNat (↑(x6.2.2) : Int))) : Int) * (↑(x11.2.2) : Int))) 0) = ints (List.replicate (Int.toNat ((↑((2 : Nat) ^ (Int.toNat (↑(x6.2.1) : Int) - Int.toNat (↑(x6.2.2) : Int))) : Int) * (↑(x11.2.2) : Int))) 0)) ∧ 
 ∀ x18 : (Nat × List Sl), ((x18.1 ≤ Int.toNat (↑(x11.2.2) : Int) ∧ links x16 (Int.toNat (↑((2 : Nat) ^ (Int.toNat (↑(x6.2.1) : Int) - Int.toNat (↑(x6.2.2) : Int))) : Int)) (Int.toNat (↑(x11.2.2) : Int)) x18.1 x18.2) → 
 (db = db) ∧ 
 Br (decide ((x18.1 : Int) < (↑(Int.toNat (↑(x11.2.2) : Int)) : Int)))
 ((db = db) ∧ 
 (inI64 ((↑(x18.1 * Int.toNat (↑((2 : Nat) ^ (Int.toNat (↑(x6.2.1) : Int) - Int.toNat (↑(x6.2.2) : Int))) : Int)) : Int) + (↑((2 : Nat) ^ (Int.toNat (↑(x6.2.1) : Int) - Int.toNat (↑(x6.2.2) : Int))) : Int))) ∧ 
 (x16 = x16) ∧ (Int.toNat ((↑((2 : Nat) ^ (Int.toNat (↑(x6.2.1) : Int) - Int.toNat (↑(x6.2.2) : Int))) : Int) * (↑(x11.2.2) : Int)) = List.length (ints (List.replicate (Int.toNat ((↑((2 : Nat) ^ (Int.toNat (↑(x6.2.1) : Int) - Int.toNat (↑(x6.2.2) : Int))) : Int) * (↑(x11.2.2) : Int))) 0)) ∧ (0 : Int) ≤ (↑(x18.1 * Int.toNat (↑((2 : Nat) ^ (Int.toNat (↑(x6.2.1) : Int) - Int.toNat (↑(x6.2.2) : Int))) : Int)) : Int) ∧ (↑(x18.1 * Int.toNat (↑((2 : Nat) ^ (Int.toNat (↑(x6.2.1) : Int) - Int.toNat (↑(x6.2.2) : Int))) : Int)) : Int) ≤ (↑(x18.1 * Int.toNat (↑((2 : Nat) ^ (Int.toNat (↑(x6.2.1) : Int) - Int.toNat (↑(x6.2.2) : Int))) : Int)) : Int) + (↑((2 : Nat) ^ (Int.toNat (↑(x6.2.1) : Int) - Int.toNat (↑(x6.2.2) : Int))) : Int) ∧ (↑(x18.1 * Int.toNat (↑((2 : Nat) ^ (Int.toNat (↑(x6.2.1) : Int) - Int.toNat (↑(x6.2.2) : Int))) : Int)) : Int) + (↑((2 : Nat) ^ (Int.toNat (↑(x6.2.1) : Int) - Int.toNat (↑(x6.2.2) : Int))) : Int) ≤ (↑(Int.toNat ((↑((2 : Nat) ^ (Int.toNat (↑(x6.2.1) : Int) - Int.toNat (↑(x6.2.2) : Int))) : Int) * (↑(x11.2.2) : Int))) : Int)) ∧ 
 (x13 = x13) ∧ (inRange (x18.1 : Int) (List.length x18.2)) ∧ 
 ∀ x19 : (Option Addr), ∀ x20 : (Nat), ((sliceVal x16 (Int.toNat (↑(x18.1 * Int.toNat (↑((2 : Nat) ^ (Int.toNat (↑(x6.2.1) : Int) - Int.toNat (↑(x6.2.2) : Int))) : Int)) : Int)) (Int.toNat ((↑(x18.1 * Int.toNat (↑((2 : Nat) ^ (Int.toNat (↑(x6.2.1) : Int) - Int.toNat (↑(x6.2.2) : Int))) : Int)) : Int) + (↑((2 : Nat) ^ (Int.toNat (↑(x6.2.1) : Int) - Int.toNat (↑(x6.2.2) : Int))) : Int))) 1 = Value.slice x19 (Int.toNat ((↑(x18.1 * Int.toNat (↑((2 : Nat) ^ (Int.toNat (↑(x6.2.1) : Int) - Int.toNat (↑(x6.2.2) : Int))) : Int)) : Int) + (↑((2 : Nat) ^ (Int.toNat (↑(x6.2.1) : Int) - Int.toNat (↑(x6.2.2) : Int))) : Int)) - Int.toNat (↑(x18.1 * Int.toNat (↑((2 : Nat) ^ (Int.toNat (↑(x6.2.1) : Int) - Int.toNat (↑(x6.2.2) : Int))) : Int)) : Int)) x20) → 
 (x13 = x13 ∧ Int.toNat (x18.1 : Int) < List.length x18.2) ∧ 
 (inI64 ((x18.1 : Int) + (1 : Int))) ∧ 
 (inI64 ((↑(x18.1 * Int.toNat (↑((2 : Nat) ^ (Int.toNat (↑(x6.2.1) : Int) - Int.toNat (↑(x6.2.2) : Int))) : Int)) : Int) + (↑((2 : Nat) ^ (Int.toNat (↑(x6.2.1) : Int) - Int.toNat (↑(x6.2.2) : Int))) : Int))) ∧ 
 ∃ x21 : (Nat × List Sl), ((x21.1 ≤ Int.toNat (↑(x11.2.2) : Int) ∧ links x16 (Int.toNat (↑((2 : Nat) ^ (Int.toNat (↑(x6.2.1) : Int) - Int.toNat (↑(x6.2.2) : Int))) : Int)) (Int.toNat (↑(x11.2.2) : Int)) x21.1 x21.2) ∧ Int.toNat (↑(x11.2.2) : Int) - x21.1 < Int.toNat (↑(x11.2.2) : Int) - x18.1) ∧ 
 ((x18.1 : Int) + (1 : Int) = (x21.1 : Int)) ∧ 
 ((↑(x18.1 * Int.toNat (↑((2 : Nat) ^ (Int.toNat (↑(x6.2.1) : Int) - Int.toNat (↑(x6.2.2) : Int))) : Int)) : Int) + (↑((2 : Nat) ^ (Int.toNat (↑(x6.2.1) : Int) - Int.toNat (↑(x6.2.2) : Int))) : Int) = (↑(x21.1 * Int.toNat (↑((2 : Nat) ^ (Int.toNat (↑(x6.2.1) : Int) - Int.toNat (↑(x6.2.2) : Int))) : Int)) : Int)) ∧ 
 (m = m) ∧ (relLe rel rel) ∧ 
 (db = db) ∧ (x5 = x5 ∧ (2 : Nat) ^ Int.toNat (↑(x6.2.2) : Int) = (2 : Nat) ^ Int.toNat (↑(x6.2.2) : Int)) ∧ 
 (x13 = x13 ∧ Int.toNat (↑(x11.2.2) : Int) = Int.toNat (↑(x11.2.2) : Int)) ∧ 
 ((↑((2 : Nat) ^ Int.toNat (↑(x6.2.2) : Int) - (1 : Nat)) : Int) = (↑((2 : Nat) ^ Int.toNat (↑(x6.2.2) : Int) - (1 : Nat)) : Int)) ∧ ((↑((2 : Nat) ^ (Int.toNat (↑(x6.2.1) : Int) - Int.toNat (↑(x6.2.2) : Int)) - (1 : Nat)) : Int) = (↑((2 : Nat) ^ (Int.toNat (↑(x6.2.1) : Int) - Int.toNat (↑(x6.2.2) : Int)) - (1 : Nat)) : Int)) ∧ ((↑(Int.toNat (↑(x6.2.2) : Int)) : Int) = (↑(Int.toNat (↑(x6.2.2) : Int)) : Int)) ∧ ((↑(Int.toNat (x6.1 : Int)) : Int) = (↑(Int.toNat (x6.1 : Int)) : Int)) ∧ ((↑(List.length lens) : Int) = (↑(List.length lens) : Int)) ∧ (x5 = x5 ∧ ints (x11.2.1) = ints (x11.2.1)) ∧ 
 (x13 = x13 ∧ List.set x18.2 (Int.toNat (x18.1 : Int)) (Sl.mk x19 (Int.toNat ((↑(x18.1 * Int.toNat (↑((2 : Nat) ^ (Int.toNat (↑(x6.2.1) : Int) - Int.toNat (↑(x6.2.2) : Int))) : Int)) : Int) + (↑((2 : Nat) ^ (Int.toNat (↑(x6.2.1) : Int) - Int.toNat (↑(x6.2.2) : Int))) : Int)) - Int.toNat (↑(x18.1 * Int.toNat (↑((2 : Nat) ^ (Int.toNat (↑(x6.2.1) : Int) - Int.toNat (↑(x6.2.2) : Int))) : Int)) : Int)) x20) = x21.2) ∧ 
 (x16 = x16 ∧ ints (List.replicate (Int.toNat ((↑((2 : Nat) ^ (Int.toNat (↑(x6.2.1) : Int) - Int.toNat (↑(x6.2.2) : Int))) : Int) * (↑(x11.2.2) : Int))) 0) = ints (List.replicate (Int.toNat ((↑((2 : Nat) ^ (Int.toNat (↑(x6.2.1) : Int) - Int.toNat (↑(x6.2.2) : Int))) : Int) * (↑(x11.2.2) : Int))) 0)) ∧ 
 (True)))
 (∃ x19 : (Nat × List Nat × List Nat), (x19.1 ≤ List.length lens ∧ tabs lens (Int.toNat (↑(Int.toNat (↑(x6.2.2) : Int)) : Int)) (Int.toNat (↑(x6.2.1) : Int) - Int.toNat (↑(Int.toNat (↑(x6.2.2) : Int)) : Int)) (nats (ints (x11.2.1))) x19.1 (x19.2.1) (x19.2.2) ∧ List.length (x19.2.2) = List.length (ints (List.replicate (Int.toNat ((↑((2 : Nat) ^ (Int.toNat (↑(x6.2.1) : Int) - Int.toNat (↑(x6.2.2) : Int))) : Int) * (↑(x11.2.2) : Int))) 0))) ∧ 
 ((0 : Int) = (x19.1 : Int)) ∧ 
 (m = m) ∧ (relLe rel rel) ∧ 
 (db = db) ∧ (x5 = x5 ∧ (2 : Nat) ^ Int.toNat (↑(x6.2.2) : Int) = (2 : Nat) ^ Int.toNat (↑(x6.2.2) : Int)) ∧ 
 (x13 = x13 ∧ Int.toNat (↑(x11.2.2) : Int) = Int.toNat (↑(x11.2.2) : Int)) ∧ 
 ((↑((2 : Nat) ^ Int.toNat (↑(x6.2.2) : Int) - (1 : Nat)) : Int) = (↑((2 : Nat) ^ Int.toNat (↑(x6.2.2) : Int) - (1 : Nat)) : Int)) ∧ ((↑((2 : Nat) ^ (Int.toNat (↑(x6.2.1) : Int) - Int.toNat (↑(x6.2.2) : Int)) - (1 : Nat)) : Int) = (↑((2 : Nat) ^ (Int.toNat (↑(x6.2.1) : Int) - Int.toNat (↑(x6.2.2) : Int)) - (1 : Nat)) : Int)) ∧ ((↑(Int.toNat (↑(x6.2.2) : Int)) : Int) = (↑(Int.toNat (↑(x6.2.2) : Int)) : Int)) ∧ ((↑(Int.toNat (x6.1 : Int)) : Int) = (↑(Int.toNat (x6.1 : Int)) : Int)) ∧ ((↑(List.length lens) : Int) = (↑(List.length lens) : Int)) ∧ (x5 = x5 ∧ ints (x11.2.1) = ints (x19.2.1)) ∧ 
 (x13 = x13 ∧ x18.2 = x18.2) ∧ 
 (x16 = x16 ∧ ints (List.replicate (Int.toNat ((↑((2 : Nat) ^ (Int.toNat (↑(x6.2.1) : Int) - Int.toNat (↑(x6.2.2) : Int))) : Int) * (↑(x11.2.2) : Int))) 0) = ints (x19.2.2)) ∧ 
 ∀ x20 : (Nat × List Nat × List Nat), ((x20.1 ≤ List.length lens ∧ tabs lens (Int.toNat (↑(Int.toNat (↑(x6.2.2) : Int)) : Int)) (Int.toNat (↑(x6.2.1) : Int) - Int.toNat (↑(Int.toNat (↑(x6.2.2) : Int)) : Int)) (nats (ints (x11.2.1))) x20.1 (x20.2.1) (x20.2.2) ∧ List.length (x20.2.2) = List.length (ints (List.replicate (Int.toNat ((↑((2 : Nat) ^ (Int.toNat (↑(x6.2.1) : Int) - Int.toNat (↑(x6.2.2) : Int))) : Int) * (↑(x11.2.2) : Int))) 0))) → 
 Br (decide ((x20.1 : Int) < (↑(List.length (canonL lens)) : Int)))
 ((inRange (x20.1 : Int) (List.length (canonL lens))) ∧ 
 (Int.toNat (x20.1 : Int) < List.length (canonL lens)) ∧ 
 ∀ x21 : (Cd), (((canonL lens)[Int.toNat (x20.1 : Int)]? = some x21) → 
 ∀ x22 : (Nat), (x22 = x22) ∧ (x22 = x22) ∧ ((0 : Int) ≤ (5 : Int)) ∧ 
 (x22 = x22) ∧ (x22 = x22) ∧ (db = db) ∧ 
 Br (decide (x21.len ≤ (↑(Int.toNat (↑(x6.2.2) : Int)) : Int)))
 ((x22 = x22) ∧ ((0 : Int) ≤ IntKind.wrap IntKind.u64 x21.len) ∧ 
 (x22 = x22) ∧ (inI64 x21.val) ∧ 
 ∃ x23 : (Nat), (x23 % (2 : Nat) ^ List.getD lens (Int.toNat (x20.1 : Int)) 0 = cval lens (Int.toNat (x20.1 : Int)) ∧ x23 < List.length (nats (ints (x20.2.1))) + (2 : Nat) ^ List.getD lens (Int.toNat (x20.1 : Int)) 0) ∧ 
 (bitI BinOp.or IntKind.u32 (shlI IntKind.u32 x21.sym (5 : Int)) x21.len = (↑(Int.toNat (x20.1 : Int) * (32 : Nat) + List.getD lens (Int.toNat (x20.1 : Int)) 0) : Int)) ∧ 
 (shlI IntKind.i64 (1 : Int) (IntKind.wrap IntKind.u64 x21.len) = (↑((2 : Nat) ^ List.getD lens (Int.toNat (x20.1 : Int)) 0) : Int)) ∧ 
 (x21.val = (x23 : Int)) ∧ 
 (m = m) ∧ (relLe rel rel) ∧ 
 (db = db) ∧ (x5 = x5 ∧ (2 : Nat) ^ Int.toNat (↑(x6.2.2) : Int) = (2 : Nat) ^ Int.toNat (↑(x6.2.2) : Int)) ∧ 
 (x13 = x13 ∧ Int.toNat (↑(x11.2.2) : Int) = Int.toNat (↑(x11.2.2) : Int)) ∧ 
 ((↑((2 : Nat) ^ Int.toNat (↑(x6.2.2) : Int) - (1 : Nat)) : Int) = (↑((2 : Nat) ^ Int.toNat (↑(x6.2.2) : Int) - (1 : Nat)) : Int)) ∧ ((↑((2 : Nat) ^ (Int.toNat (↑(x6.2.1) : Int) - Int.toNat (↑(x6.2.2) : Int)) - (1 : Nat)) : Int) = (↑((2 : Nat) ^ (Int.toNat (↑(x6.2.1) : Int) - Int.toNat (↑(x6.2.2) : Int)) - (1 : Nat)) : Int)) ∧ ((↑(Int.toNat (↑(x6.2.2) : Int)) : Int) = (↑(Int.toNat (↑(x6.2.2) : Int)) : Int)) ∧ ((↑(Int.toNat (x6.1 : Int)) : Int) = (↑(Int.toNat (x6.1 : Int)) : Int)) ∧ ((↑(List.length lens) : Int) = (↑(List.length lens) : Int)) ∧ (x5 = x5 ∧ ints (x20.2.1) = ints (fillAt (nats (ints (x20.2.1))) 0 ((2 : Nat) ^ List.getD lens (Int.toNat (x20.1 : Int)) 0) (cval lens (Int.toNat (x20.1 : Int))) (Int.toNat (x20.1 : Int) * (32 : Nat) + List.getD lens (Int.toNat (x20.1 : Int)) 0) x23)) ∧ 
 (x13 = x13 ∧ x18.2 = x18.2) ∧ 
 (x16 = x16 ∧ ints (x20.2.2) = ints (x20.2.2)) ∧ 
 (x22 = x22) ∧ (x21.sym = x21.sym) ∧ (x21.cnt = x21.cnt) ∧ (x21.len = x21.len) ∧ (x21.val = x21.val) ∧ ∀ x24 : (Nat), ((x24 % (2 : Nat) ^ List.getD lens (Int.toNat (x20.1 : Int)) 0 = cval lens (Int.toNat (x20.1 : Int)) ∧ x24 < List.length (nats (ints (x20.2.1))) + (2 : Nat) ^ List.getD lens (Int.toNat (x20.1 : Int)) 0) → 
 (db = db) ∧ 
 Br (decide ((x24 : Int) < (↑((2 : Nat) ^ Int.toNat (↑(x6.2.2) : Int)) : Int)))
 ((db = db) ∧ 
 (x5 = x5) ∧ (inRange (x24 : Int) (List.length (ints (fillAt (nats (ints (x20.2.1))) 0 ((2 : Nat) ^ List.getD lens (Int.toNat (x20.1 : Int)) 0) (cval lens (Int.toNat (x20.1 : Int))) (Int.toNat (x20.1 : Int) * (32 : Nat) + List.getD lens (Int.toNat (x20.1 : Int)) 0) x24)))) ∧ 
 (x5 = x5 ∧ Int.toNat (x24 : Int) < List.length (ints (fillAt (nats (ints (x20.2.1))) 0 ((2 : Nat) ^ List.getD lens (Int.toNat (x20.1 : Int)) 0) (cval lens (Int.toNat (x20.1 : Int))) (Int.toNat (x20.1 : Int) * (32 : Nat) + List.getD lens (Int.toNat (x20.1 : Int)) 0) x24))) ∧ 
 (inI64 ((x24 : Int) + (↑((2 : Nat) ^ List.getD lens (Int.toNat (x20.1 : Int)) 0) : Int))) ∧ 
 ∃ x25 : (Nat), ((x25 % (2 : Nat) ^ List.getD lens (Int.toNat (x20.1 : Int)) 0 = cval lens (Int.toNat (x20.1 : Int)) ∧ x25 < List.length (nats (ints (x20.2.1))) + (2 : Nat) ^ List.getD lens (Int.toNat (x20.1 : Int)) 0) ∧ List.length (nats (ints (x20.2.1))) + (2 : Nat) ^ List.getD lens (Int.toNat (x20.1 : Int)) 0 - x25 < List.length (nats (ints (x20.2.1))) + (2 : Nat) ^ List.getD lens (Int.toNat (x20.1 : Int)) 0 - x24) ∧ 
 ((↑(Int.toNat (x20.1 : Int) * (32 : Nat) + List.getD lens (Int.toNat (x20.1 : Int)) 0) : Int) = (↑(Int.toNat (x20.1 : Int) * (32 : Nat) + List.getD lens (Int.toNat (x20.1 : Int)) 0) : Int)) ∧ ((↑((2 : Nat) ^ List.getD lens (Int.toNat (x20.1 : Int)) 0) : Int) = (↑((2 : Nat) ^ List.getD lens (Int.toNat (x20.1 : Int)) 0) : Int)) ∧ ((x24 : Int) + (↑((2 : Nat) ^ List.getD lens (Int.toNat (x20.1 : Int)) 0) : Int) = (x25 : Int)) ∧ 
 (m = m) ∧ (relLe rel rel) ∧ 
 (db = db) ∧ (x5 = x5 ∧ (2 : Nat) ^ Int.toNat (↑(x6.2.2) : Int) = (2 : Nat) ^ Int.toNat (↑(x6.2.2) : Int)) ∧ 
 (x13 = x13 ∧ Int.toNat (↑(x11.2.2) : Int) = Int.toNat (↑(x11.2.2) : Int)) ∧ 
 ((↑((2 : Nat) ^ Int.toNat (↑(x6.2.2) : Int) - (1 : Nat)) : Int) = (↑((2 : Nat) ^ Int.toNat (↑(x6.2.2) : Int) - (1 : Nat)) : Int)) ∧ ((↑((2 : Nat) ^ (Int.toNat (↑(x6.2.1) : Int) - Int.toNat (↑(x6.2.2) : Int)) - (1 : Nat)) : Int) = (↑((2 : Nat) ^ (Int.toNat (↑(x6.2.1) : Int) - Int.toNat (↑(x6.2.2) : Int)) - (1 : Nat)) : Int)) ∧ ((↑(Int.toNat (↑(x6.2.2) : Int)) : Int) = (↑(Int.toNat (↑(x6.2.2) : Int)) : Int)) ∧ ((↑(Int.toNat (x6.1 : Int)) : Int) = (↑(Int.toNat (x6.1 : Int)) : Int)) ∧ ((↑(List.length lens) : Int) = (↑(List.length lens) : Int)) ∧ (x5 = x5 ∧ List.set (ints (fillAt (nats (ints (x20.2.1))) 0 ((2 : Nat) ^ List.getD lens (Int.toNat (x20.1 : Int)) 0) (cval lens (Int.toNat (x20.1 : Int))) (Int.toNat (x20.1 : Int) * (32 : Nat) + List.getD lens (Int.toNat (x20.1 : Int)) 0) x24)) (Int.toNat (x24 : Int)) (↑(Int.toNat (x20.1 : Int) * (32 : Nat) + List.getD lens (Int.toNat (x20.1 : Int)) 0) : Int) = ints (fillAt (nats (ints (x20.2.1))) 0 ((2 : Nat) ^ List.getD lens (Int.toNat (x20.1 : Int)) 0) (cval lens (Int.toNat (x20.1 : Int))) (Int.toNat (x20.1 : Int) * (32 : Nat) + List.getD lens (Int.toNat (x20.1 : Int)) 0) x25)) ∧ 
 (x13 = x13 ∧ x18.2 = x18.2) ∧ 
 (x16 = x16 ∧ ints (x20.2.2) = ints (x20.2.2)) ∧ 
 (x22 = x22) ∧ (x21.sym = x21.sym) ∧ (x21.cnt = x21.cnt) ∧ (x21.len = x21.len) ∧ (x21.val = x21.val) ∧ (True))
 ((inI64 ((x20.1 : Int) + (1 : Int))) ∧ 
 ∃ x25 : (Nat × List Nat × List Nat), ((x25.1 ≤ List.length lens ∧ tabs lens (Int.toNat (↑(Int.toNat (↑(x6.2.2) : Int)) : Int)) (Int.toNat (↑(x6.2.1) : Int) - Int.toNat (↑(Int.toNat (↑(x6.2.2) : Int)) : Int)) (nats (ints (x11.2.1))) x25.1 (x25.2.1) (x25.2.2) ∧ List.length (x25.2.2) = List.length (ints (List.replicate (Int.toNat ((↑((2 : Nat) ^ (Int.toNat (↑(x6.2.1) : Int) - Int.toNat (↑(x6.2.2) : Int))) : Int) * (↑(x11.2.2) : Int))) 0))) ∧ List.length lens - x25.1 < List.length lens - x20.1) ∧ 
 ((x20.1 : Int) + (1 : Int) = (x25.1 : Int)) ∧ 
 (m = m) ∧ (relLe rel rel) ∧ 
 (db = db) ∧ (x5 = x5 ∧ (2 : Nat) ^ Int.toNat (↑(x6.2.2) : Int) = (2 : Nat) ^ Int.toNat (↑(x6.2.2) : Int)) ∧ 
 (x13 = x13 ∧ Int.toNat (↑(x11.2.2) : Int) = Int.toNat (↑(x11.2.2) : Int)) ∧ 
 ((↑((2 : Nat) ^ Int.toNat (↑(x6.2.2) : Int) - (1 : Nat)) : Int) = (↑((2 : Nat) ^ Int.toNat (↑(x6.2.2) : Int) - (1 : Nat)) : Int)) ∧ ((↑((2 : Nat) ^ (Int.toNat (↑(x6.2.1) : Int) - Int.toNat (↑(x6.2.2) : Int)) - (1 : Nat)) : Int) = (↑((2 : Nat) ^ (Int.toNat (↑(x6.2.1) : Int) - Int.toNat (↑(x6.2.2) : Int)) - (1 : Nat)) : Int)) ∧ ((↑(Int.toNat (↑(x6.2.2) : Int)) : Int) = (↑(Int.toNat (↑(x6.2.2) : Int)) : Int)) ∧ ((↑(Int.toNat (x6.1 : Int)) : Int) = (↑(Int.toNat (x6.1 : Int)) : Int)) ∧ ((↑(List.length lens) : Int) = (↑(List.length lens) : Int)) ∧ (x5 = x5 ∧ ints (fillAt (nats (ints (x20.2.1))) 0 ((2 : Nat) ^ List.getD lens (Int.toNat (x20.1 : Int)) 0) (cval lens (Int.toNat (x20.1 : Int))) (Int.toNat (x20.1 : Int) * (32 : Nat) + List.getD lens (Int.toNat (x20.1 : Int)) 0) x24) = ints (x25.2.1)) ∧ 
 (x13 = x13 ∧ x18.2 = x18.2) ∧ 
 (x16 = x16 ∧ ints (x20.2.2) = ints (x25.2.2)) ∧ 
 (True))))
 ((db = db) ∧ 
 (x22 = x22) ∧ (db = db) ∧ 
 (x5 = x5) ∧ (inRange (bitI BinOp.and IntKind.u32 x21.val (↑((2 : Nat) ^ Int.toNat (↑(x6.2.2) : Int) - (1 : Nat)) : Int)) (List.length (ints (x20.2.1)))) ∧ 
 (x5 = x5) ∧ (Int.toNat (bitI BinOp.and IntKind.u32 x21.val (↑((2 : Nat) ^ Int.toNat (↑(x6.2.2) : Int) - (1 : Nat)) : Int)) < List.length (ints (x20.2.1))) ∧ 
 ∀ x23 : (Int), (((ints (x20.2.1))[Int.toNat (bitI BinOp.and IntKind.u32 x21.val (↑((2 : Nat) ^ Int.toNat (↑(x6.2.2) : Int) - (1 : Nat)) : Int))]? = some x23) → 
 ((0 : Int) ≤ (5 : Int)) ∧ 
 (db = db) ∧ 
 (x13 = x13) ∧ (inRange (shrI IntKind.u32 x23 (5 : Int)) (List.length x18.2)) ∧ 
 (x13 = x13) ∧ (Int.toNat (shrI IntKind.u32 x23 (5 : Int)) < List.length x18.2) ∧ 
 ∀ x24 : (Sl), ((x18.2[Int.toNat (shrI IntKind.u32 x23 (5 : Int))]? = some x24) → 
 (x22 = x22) ∧ (db = db) ∧ 
 ((0 : Int) ≤ IntKind.wrap IntKind.u64 (IntKind.wrap IntKind.u32 (x21.len - (↑(Int.toNat (↑(x6.2.2) : Int)) : Int)))) ∧ 
 (x22 = x22) ∧ (db = db) ∧ 
 ((0 : Int) ≤ (↑(Int.toNat (↑(x6.2.2) : Int)) : Int)) ∧ 
 (inI64 (shrI IntKind.u32 x21.val (↑(Int.toNat (↑(x6.2.2) : Int)) : Int))) ∧ 
 ∃ x25 : (Nat), (x25 % (2 : Nat) ^ (List.getD lens (Int.toNat (x20.1 : Int)) 0 - Int.toNat (↑(Int.toNat (↑(x6.2.2) : Int)) : Int)) = cval lens (Int.toNat (x20.1 : Int)) / (2 : Nat) ^ Int.toNat (↑(Int.toNat (↑(x6.2.2) : Int)) : Int) ∧ x25 < (2 : Nat) ^ (Int.toNat (↑(x6.2.1) : Int) - Int.toNat (↑(Int.toNat (↑(x6.2.2) : Int)) : Int)) + (2 : Nat) ^ (List.getD lens (Int.toNat (x20.1 : Int)) 0 - Int.toNat (↑(Int.toNat (↑(x6.2.2) : Int)) : Int))) ∧ 
 (bitI BinOp.or IntKind.u32 (shlI IntKind.u32 x21.sym (5 : Int)) x21.len = (↑(Int.toNat (x20.1 : Int) * (32 : Nat) + List.getD lens (Int.toNat (x20.1 : Int)) 0) : Int)) ∧ 
 (Value.slice (Sl.A x24) x24.n x24.cap = sliceVal x16 (lkAt lens (nats (ints (x20.2.1))) (Int.toNat (x20.1 : Int)) (Int.toNat (↑(Int.toNat (↑(x6.2.2) : Int)) : Int)) * (2 : Nat) ^ (Int.toNat (↑(x6.2.1) : Int) - Int.toNat (↑(Int.toNat (↑(x6.2.2) : Int)) : Int))) ((lkAt lens (nats (ints (x20.2.1))) (Int.toNat (x20.1 : Int)) (Int.toNat (↑(Int.toNat (↑(x6.2.2) : Int)) : Int)) + (1 : Nat)) * (2 : Nat) ^ (Int.toNat (↑(x6.2.1) : Int) - Int.toNat (↑(Int.toNat (↑(x6.2.2) : Int)) : Int))) 1 ∧ x24.n = (2 : Nat) ^ (Int.toNat (↑(x6.2.1) : Int) - Int.toNat (↑(Int.toNat (↑(x6.2.2) : Int)) : Int))) ∧ 
 (shlI IntKind.i64 (1 : Int) (IntKind.wrap IntKind.u64 (IntKind.wrap IntKind.u32 (x21.len - (↑(Int.toNat (↑(x6.2.2) : Int)) : Int)))) = (↑((2 : Nat) ^ (List.getD lens (Int.toNat (x20.1 : Int)) 0 - Int.toNat (↑(Int.toNat (↑(x6.2.2) : Int)) : Int))) : Int)) ∧ 
 (shrI IntKind.u32 x21.val (↑(Int.toNat (↑(x6.2.2) : Int)) : Int) = (x25 : Int)) ∧ 
 (m = m) ∧ (relLe rel rel) ∧ 
 (db = db) ∧ (x5 = x5 ∧ (2 : Nat) ^ Int.toNat (↑(x6.2.2) : Int) = (2 : Nat) ^ Int.toNat (↑(x6.2.2) : Int)) ∧ 
 (x13 = x13 ∧ Int.toNat (↑(x11.2.2) : Int) = Int.toNat (↑(x11.2.2) : Int)) ∧ 
 ((↑((2 : Nat) ^ Int.toNat (↑(x6.2.2) : Int) - (1 : Nat)) : Int) = (↑((2 : Nat) ^ Int.toNat (↑(x6.2.2) : Int) - (1 : Nat)) : Int)) ∧ ((↑((2 : Nat) ^ (Int.toNat (↑(x6.2.1) : Int) - Int.toNat (↑(x6.2.2) : Int)) - (1 : Nat)) : Int) = (↑((2 : Nat) ^ (Int.toNat (↑(x6.2.1) : Int) - Int.toNat (↑(x6.2.2) : Int)) - (1 : Nat)) : Int)) ∧ ((↑(Int.toNat (↑(x6.2.2) : Int)) : Int) = (↑(Int.toNat (↑(x6.2.2) : Int)) : Int)) ∧ ((↑(Int.toNat (x6.1 : Int)) : Int) = (↑(Int.toNat (x6.1 : Int)) : Int)) ∧ ((↑(List.length lens) : Int) = (↑(List.length lens) : Int)) ∧ (x5 = x5 ∧ ints (x20.2.1) = ints (x20.2.1)) ∧ 
 (x13 = x13 ∧ x18.2 = x18.2) ∧ 
 (x16 = x16 ∧ ints (x20.2.2) = ints (fillAt (nats (ints (x20.2.2))) (lkAt lens (nats (ints (x20.2.1))) (Int.toNat (x20.1 : Int)) (Int.toNat (↑(Int.toNat (↑(x6.2.2) : Int)) : Int)) * (2 : Nat) ^ (Int.toNat (↑(x6.2.1) : Int) - Int.toNat (↑(Int.toNat (↑(x6.2.2) : Int)) : Int))) ((2 : Nat) ^ (List.getD lens (Int.toNat (x20.1 : Int)) 0 - Int.toNat (↑(Int.toNat (↑(x6.2.2) : Int)) : Int))) (cval lens (Int.toNat (x20.1 : Int)) / (2 : Nat) ^ Int.toNat (↑(Int.toNat (↑(x6.2.2) : Int)) : Int)) (Int.toNat (x20.1 : Int) * (32 : Nat) + List.getD lens (Int.toNat (x20.1 : Int)) 0) x25)) ∧ 
 (x22 = x22) ∧ (x21.sym = x21.sym) ∧ (x21.cnt = x21.cnt) ∧ (x21.len = x21.len) ∧ (x21.val = x21.val) ∧ ∀ x26 : (Nat), ((x26 % (2 : Nat) ^ (List.getD lens (Int.toNat (x20.1 : Int)) 0 - Int.toNat (↑(Int.toNat (↑(x6.2.2) : Int)) : Int)) = cval lens (Int.toNat (x20.1 : Int)) / (2 : Nat) ^ Int.toNat (↑(Int.toNat (↑(x6.2.2) : Int)) : Int) ∧ x26 < (2 : Nat) ^ (Int.toNat (↑(x6.2.1) : Int) - Int.toNat (↑(Int.toNat (↑(x6.2.2) : Int)) : Int)) + (2 : Nat) ^ (List.getD lens (Int.toNat (x20.1 : Int)) 0 - Int.toNat (↑(Int.toNat (↑(x6.2.2) : Int)) : Int))) → 
 Br (decide ((x26 : Int) < (↑((2 : Nat) ^ (Int.toNat (↑(x6.2.1) : Int) - Int.toNat (↑(Int.toNat (↑(x6.2.2) : Int)) : Int))) : Int)))
 (∃ x27 : (Nat × Nat), (sliceVal x16 (lkAt lens (nats (ints (x20.2.1))) (Int.toNat (x20.1 : Int)) (Int.toNat (↑(Int.toNat (↑(x6.2.2) : Int)) : Int)) * (2 : Nat) ^ (Int.toNat (↑(x6.2.1) : Int) - Int.toNat (↑(Int.toNat (↑(x6.2.2) : Int)) : Int))) ((lkAt lens (nats (ints (x20.2.1))) (Int.toNat (x20.1 : Int)) (Int.toNat (↑(Int.toNat (↑(x6.2.2) : Int)) : Int)) + (1 : Nat)) * (2 : Nat) ^ (Int.toNat (↑(x6.2.1) : Int) - Int.toNat (↑(Int.toNat (↑(x6.2.2) : Int)) : Int))) 1 = sliceVal x16 x27.1 x27.2 1 ∧ x27.1 ≤ x27.2 ∧ x27.2 ≤ List.length (ints (fillAt (nats (ints (x20.2.2))) (lkAt lens (nats (ints (x20.2.1))) (Int.toNat (x20.1 : Int)) (Int.toNat (↑(Int.toNat (↑(x6.2.2) : Int)) : Int)) * (2 : Nat) ^ (Int.toNat (↑(x6.2.1) : Int) - Int.toNat (↑(Int.toNat (↑(x6.2.2) : Int)) : Int))) ((2 : Nat) ^ (List.getD lens (Int.toNat (x20.1 : Int)) 0 - Int.toNat (↑(Int.toNat (↑(x6.2.2) : Int)) : Int))) (cval lens (Int.toNat (x20.1 : Int)) / (2 : Nat) ^ Int.toNat (↑(Int.toNat (↑(x6.2.2) : Int)) : Int)) (Int.toNat (x20.1 : Int) * (32 : Nat) + List.getD lens (Int.toNat (x20.1 : Int)) 0) x26))) ∧ 
 (inRange (x26 : Int) (x27.2 - x27.1)) ∧ 
 (x16 = x16 ∧ x27.1 + Int.toNat (x26 : Int) < List.length (ints (fillAt (nats (ints (x20.2.2))) (lkAt lens (nats (ints (x20.2.1))) (Int.toNat (x20.1 : Int)) (Int.toNat (↑(Int.toNat (↑(x6.2.2) : Int)) : Int)) * (2 : Nat) ^ (Int.toNat (↑(x6.2.1) : Int) - Int.toNat (↑(Int.toNat (↑(x6.2.2) : Int)) : Int))) ((2 : Nat) ^ (List.getD lens (Int.toNat (x20.1 : Int)) 0 - Int.toNat (↑(Int.toNat (↑(x6.2.2) : Int)) : Int))) (cval lens (Int.toNat (x20.1 : Int)) / (2 : Nat) ^ Int.toNat (↑(Int.toNat (↑(x6.2.2) : Int)) : Int)) (Int.toNat (x20.1 : Int) * (32 : Nat) + List.getD lens (Int.toNat (x20.1 : Int)) 0) x26))) ∧ 
 (inI64 ((x26 : Int) + (↑((2 : Nat) ^ (List.getD lens (Int.toNat (x20.1 : Int)) 0 - Int.toNat (↑(Int.toNat (↑(x6.2.2) : Int)) : Int))) : Int))) ∧ 
 ∃ x28 : (Nat), ((x28 % (2 : Nat) ^ (List.getD lens (Int.toNat (x20.1 : Int)) 0 - Int.toNat (↑(Int.toNat (↑(x6.2.2) : Int)) : Int)) = cval lens (Int.toNat (x20.1 : Int)) / (2 : Nat) ^ Int.toNat (↑(Int.toNat (↑(x6.2.2) : Int)) : Int) ∧ x28 < (2 : Nat) ^ (Int.toNat (↑(x6.2.1) : Int) - Int.toNat (↑(Int.toNat (↑(x6.2.2) : Int)) : Int)) + (2 : Nat) ^ (List.getD lens (Int.toNat (x20.1 : Int)) 0 - Int.toNat (↑(Int.toNat (↑(x6.2.2) : Int)) : Int))) ∧ (2 : Nat) ^ (Int.toNat (↑(x6.2.1) : Int) - Int.toNat (↑(Int.toNat (↑(x6.2.2) : Int)) : Int)) + (2 : Nat) ^ (List.getD lens (Int.toNat (x20.1 : Int)) 0 - Int.toNat (↑(Int.toNat (↑(x6.2.2) : Int)) : Int)) - x28 < (2 : Nat) ^ (Int.toNat (↑(x6.2.1) : Int) - Int.toNat (↑(Int.toNat (↑(x6.2.2) : Int)) : Int)) + (2 : Nat) ^ (List.getD lens (Int.toNat (x20.1 : Int)) 0 - Int.toNat (↑(Int.toNat (↑(x6.2.2) : Int)) : Int)) - x26) ∧ 
 ((↑(Int.toNat (x20.1 : Int) * (32 : Nat) + List.getD lens (Int.toNat (x20.1 : Int)) 0) : Int) = (↑(Int.toNat (x20.1 : Int) * (32 : Nat) + List.getD lens (Int.toNat (x20.1 : Int)) 0) : Int)) ∧ (sliceVal x16 (lkAt lens (nats (ints (x20.2.1))) (Int.toNat (x20.1 : Int)) (Int.toNat (↑(Int.toNat (↑(x6.2.2) : Int)) : Int)) * (2 : Nat) ^ (Int.toNat (↑(x6.2.1) : Int) - Int.toNat (↑(Int.toNat (↑(x6.2.2) : Int)) : Int))) ((lkAt lens (nats (ints (x20.2.1))) (Int.toNat (x20.1 : Int)) (Int.toNat (↑(Int.toNat (↑(x6.2.2) : Int)) : Int)) + (1 : Nat)) * (2 : Nat) ^ (Int.toNat (↑(x6.2.1) : Int) - Int.toNat (↑(Int.toNat (↑(x6.2.2) : Int)) : Int))) 1 = sliceVal x16 (lkAt lens (nats (ints (x20.2.1))) (Int.toNat (x20.1 : Int)) (Int.toNat (↑(Int.toNat (↑(x6.2.2) : Int)) : Int)) * (2 : Nat) ^ (Int.toNat (↑(x6.2.1) : Int) - Int.toNat (↑(Int.toNat (↑(x6.2.2) : Int)) : Int))) ((lkAt lens (nats (ints (x20.2.1))) (Int.toNat (x20.1 : Int)) (Int.toNat (↑(Int.toNat (↑(x6.2.2) : Int)) : Int)) + (1 : Nat)) * (2 : Nat) ^ (Int.toNat (↑(x6.2.1) : Int) - Int.toNat (↑(Int.toNat (↑(x6.2.2) : Int)) : Int))) 1 ∧ (2 : Nat) ^ (Int.toNat (↑(x6.2.1) : Int) - Int.toNat (↑(Int.toNat (↑(x6.2.2) : Int)) : Int)) = (2 : Nat) ^ (Int.toNat (↑(x6.2.1) : Int) - Int.toNat (↑(Int.toNat (↑(x6.2.2) : Int)) : Int))) ∧ 
 ((↑((2 : Nat) ^ (List.getD lens (Int.toNat (x20.1 : Int)) 0 - Int.toNat (↑(Int.toNat (↑(x6.2.2) : Int)) : Int))) : Int) = (↑((2 : Nat) ^ (List.getD lens (Int.toNat (x20.1 : Int)) 0 - Int.toNat (↑(Int.toNat (↑(x6.2.2) : Int)) : Int))) : Int)) ∧ ((x26 : Int) + (↑((2 : Nat) ^ (List.getD lens (Int.toNat (x20.1 : Int)) 0 - Int.toNat (↑(Int.toNat (↑(x6.2.2) : Int)) : Int))) : Int) = (x28 : Int)) ∧ 
 (m = m) ∧ (relLe rel rel) ∧ 
 (db = db) ∧ (x5 = x5 ∧ (2 : Nat) ^ Int.toNat (↑(x6.2.2) : Int) = (2 : Nat) ^ Int.toNat (↑(x6.2.2) : Int)) ∧ 
 (x13 = x13 ∧ Int.toNat (↑(x11.2.2) : Int) = Int.toNat (↑(x11.2.2) : Int)) ∧ 
 ((↑((2 : Nat) ^ Int.toNat (↑(x6.2.2) : Int) - (1 : Nat)) : Int) = (↑((2 : Nat) ^ Int.toNat (↑(x6.2.2) : Int) - (1 : Nat)) : Int)) ∧ ((↑((2 : Nat) ^ (Int.toNat (↑(x6.2.1) : Int) - Int.toNat (↑(x6.2.2) : Int)) - (1 : Nat)) : Int) = (↑((2 : Nat) ^ (Int.toNat (↑(x6.2.1) : Int) - Int.toNat (↑(x6.2.2) : Int)) - (1 : Nat)) : Int)) ∧ ((↑(Int.toNat (↑(x6.2.2) : Int)) : Int) = (↑(Int.toNat (↑(x6.2.2) : Int)) : Int)) ∧ ((↑(Int.toNat (x6.1 : Int)) : Int) = (↑(Int.toNat (x6.1 : Int)) : Int)) ∧ ((↑(List.length lens) : Int) = (↑(List.length lens) : Int)) ∧ (x5 = x5 ∧ ints (x20.2.1) = ints (x20.2.1)) ∧ 
 (x13 = x13 ∧ x18.2 = x18.2) ∧ 
 (x16 = x16 ∧ List.set (ints (fillAt (nats (ints (x20.2.2))) (lkAt lens (nats (ints (x20.2.1))) (Int.toNat (x20.1 : Int)) (Int.toNat (↑(Int.toNat (↑(x6.2.2) : Int)) : Int)) * (2 : Nat) ^ (Int.toNat (↑(x6.2.1) : Int) - Int.toNat (↑(Int.toNat (↑(x6.2.2) : Int)) : Int))) ((2 : Nat) ^ (List.getD lens (Int.toNat (x20.1 : Int)) 0 - Int.toNat (↑(Int.toNat (↑(x6.2.2) : Int)) : Int))) (cval lens (Int.toNat (x20.1 : Int)) / (2 : Nat) ^ Int.toNat (↑(Int.toNat (↑(x6.2.2) : Int)) : Int)) (Int.toNat (x20.1 : Int) * (32 : Nat) + List.getD lens (Int.toNat (x20.1 : Int)) 0) x26)) (x27.1 + Int.toNat (x26 : Int)) (↑(Int.toNat (x20.1 : Int) * (32 : Nat) + List.getD lens (Int.toNat (x20.1 : Int)) 0) : Int) = ints (fillAt (nats (ints (x20.2.2))) (lkAt lens (nats (ints (x20.2.1))) (Int.toNat (x20.1 : Int)) (Int.toNat (↑(Int.toNat (↑(x6.2.2) : Int)) : Int)) * (2 : Nat) ^ (Int.toNat (↑(x6.2.1) : Int) - Int.toNat (↑(Int.toNat (↑(x6.2.2) : Int)) : Int))) ((2 : Nat) ^ (List.getD lens (Int.toNat (x20.1 : Int)) 0 - Int.toNat (↑(Int.toNat (↑(x6.2.2) : Int)) : Int))) (cval lens (Int.toNat (x20.1 : Int)) / (2 : Nat) ^ Int.toNat (↑(Int.toNat (↑(x6.2.2) : Int)) : Int)) (Int.toNat (x20.1 : Int) * (32 : Nat) + List.getD lens (Int.toNat (x20.1 : Int)) 0) x28)) ∧ 
 (x22 = x22) ∧ (x21.sym = x21.sym) ∧ (x21.cnt = x21.cnt) ∧ (x21.len = x21.len) ∧ (x21.val = x21.val) ∧ (True))
 ((inI64 ((x20.1 : Int) + (1 : Int))) ∧ 
 ∃ x27 : (Nat × List Nat × List Nat), ((x27.1 ≤ List.length lens ∧ tabs lens (Int.toNat (↑(Int.toNat (↑(x6.2.2) : Int)) : Int)) (Int.toNat (↑(x6.2.1) : Int) - Int.toNat (↑(Int.toNat (↑(x6.2.2) : Int)) : Int)) (nats (ints (x11.2.1))) x27.1 (x27.2.1) (x27.2.2) ∧ List.length (x27.2.2) = List.length (ints (List.replicate (Int.toNat ((↑((2 : Nat) ^ (Int.toNat (↑(x6.2.1) : Int) - Int.toNat (↑(x6.2.2) : Int))) : Int) * (↑(x11.2.2) : Int))) 0))) ∧ List.length lens - x27.1 < List.length lens - x20.1) ∧ 
 ((x20.1 : Int) + (1 : Int) = (x27.1 : Int)) ∧ 
 (m = m) ∧ (relLe rel rel) ∧ 
 (db = db) ∧ (x5 = x5 ∧ (2 : Nat) ^ Int.toNat (↑(x6.2.2) : Int) = (2 : Nat) ^ Int.toNat (↑(x6.2.2) : Int)) ∧ 
 (x13 = x13 ∧ Int.toNat (↑(x11.2.2) : Int) = Int.toNat (↑(x11.2.2) : Int)) ∧ 
 ((↑((2 : Nat) ^ Int.toNat (↑(x6.2.2) : Int) - (1 : Nat)) : Int) = (↑((2 : Nat) ^ Int.toNat (↑(x6.2.2) : Int) - (1 : Nat)) : Int)) ∧ ((↑((2 : Nat) ^ (Int.toNat (↑(x6.2.1) : Int) - Int.toNat (↑(x6.2.2) : Int)) - (1 : Nat)) : Int) = (↑((2 : Nat) ^ (Int.toNat (↑(x6.2.1) : Int) - Int.toNat (↑(x6.2.2) : Int)) - (1 : Nat)) : Int)) ∧ ((↑(Int.toNat (↑(x6.2.2) : Int)) : Int) = (↑(Int.toNat (↑(x6.2.2) : Int)) : Int)) ∧ ((↑(Int.toNat (x6.1 : Int)) : Int) = (↑(Int.toNat (x6.1 : Int)) : Int)) ∧ ((↑(List.length lens) : Int) = (↑(List.length lens) : Int)) ∧ (x5 = x5 ∧ ints (x20.2.1) = ints (x27.2.1)) ∧ 
 (x13 = x13 ∧ x18.2 = x18.2) ∧ 
 (x16 = x16 ∧ ints (fillAt (nats (ints (x20.2.2))) (lkAt lens (nats (ints (x20.2.1))) (Int.toNat (x20.1 : Int)) (Int.toNat (↑(Int.toNat (↑(x6.2.2) : Int)) : Int)) * (2 : Nat) ^ (Int.toNat (↑(x6.2.1) : Int) - Int.toNat (↑(Int.toNat (↑(x6.2.2) : Int)) : Int))) ((2 : Nat) ^ (List.getD lens (Int.toNat (x20.1 : Int)) 0 - Int.toNat (↑(Int.toNat (↑(x6.2.2) : Int)) : Int))) (cval lens (Int.toNat (x20.1 : Int)) / (2 : Nat) ^ Int.toNat (↑(Int.toNat (↑(x6.2.2) : Int)) : Int)) (Int.toNat (x20.1 : Int) * (32 : Nat) + List.getD lens (Int.toNat (x20.1 : Int)) 0) x26) = ints (x27.2.2)) ∧ 
 (True))))))))
 ((x5 = x5 ∧ (2 : Nat) ^ Int.toNat (↑(x6.2.2) : Int) = List.length (ints (x20.2.1))) ∧ 
 (x13 = x13 ∧ Int.toNat (↑(x11.2.2) : Int) = List.length x18.2) ∧ 
 (db = db) ∧ ∃ x21 : (DC × Rel TT), (relLe rel x21.2 ∧ decOK x21.2 lens x21.1) ∧ 
 (m = m) ∧ (relLe x21.2 (relAdd rel 43 x16 (ints (x20.2.2)))) ∧ 
 (db = db) ∧ 
 (x5 = x21.1.cv ∧ ints (x20.2.1) = ints x21.1.ch) ∧ 
 (x13 = x21.1.lv ∧ x18.2 = x21.1.lk) ∧ 
 ((↑((2 : Nat) ^ Int.toNat (↑(x6.2.2) : Int) - (1 : Nat)) : Int) = (x21.1.cm : Int)) ∧ 
 ((↑((2 : Nat) ^ (Int.toNat (↑(x6.2.1) : Int) - Int.toNat (↑(x6.2.2) : Int)) - (1 : Nat)) : Int) = (x21.1.lm : Int)) ∧ 
 ((↑(Int.toNat (↑(x6.2.2) : Int)) : Int) = (x21.1.cb : Int)) ∧ 
 ((↑(Int.toNat (x6.1 : Int)) : Int) = (x21.1.mb : Int)) ∧ 
 ((↑(List.length lens) : Int) = (x21.1.ns : Int)) ∧ 
 (True)))))))))))))))
 (∃ x7 : (Nat × List Nat), (x7.1 ≤ List.length lens ∧ tabs lens (Int.toNat (↑(x6.2.2) : Int)) 0 (nats (ints (List.replicate ((2 : Nat) ^ x6.2.2) 0))) x7.1 x7.2 []) ∧ 
 ((0 : Int) = (x7.1 : Int)) ∧ 
 (m = m) ∧ (relLe rel rel) ∧ 
 (db = db) ∧ (x5 = x5 ∧ (2 : Nat) ^ x6.2.2 = (2 : Nat) ^ x6.2.2) ∧ 
 (Value.slice none 0 0 = Value.slice none 0 0) ∧ ((↑((2 : Nat) ^ x6.2.2 - (1 : Nat)) : Int) = (↑((2 : Nat) ^ x6.2.2 - (1 : Nat)) : Int)) ∧ ((0 : Int) = (0 : Int)) ∧ ((↑(x6.2.2) : Int) = (↑(x6.2.2) : Int)) ∧ ((x6.1 : Int) = (x6.1 : Int)) ∧ ((↑(List.length lens) : Int) = (↑(List.length lens) : Int)) ∧ (x5 = x5 ∧ ints (List.replicate ((2 : Nat) ^ x6.2.2) 0) = ints x7.2) ∧ 
 ∀ x8 : (Nat × List Nat), ((x8.1 ≤ List.length lens ∧ tabs lens (Int.toNat (↑(x6.2.2) : Int)) 0 (nats (ints (List.replicate ((2 : Nat) ^ x6.2.2) 0))) x8.1 x8.2 []) → 
 Br (decide ((x8.1 : Int) < (↑(List.length (canonL lens)) : Int)))
 ((inRange (x8.1 : Int) (List.length (canonL lens))) ∧ 
 (Int.toNat (x8.1 : Int) < List.length (canonL lens)) ∧ 
 ∀ x9 : (Cd), (((canonL lens)[Int.toNat (x8.1 : Int)]? = some x9) → 
 ∀ x10 : (Nat), (x10 = x10) ∧ (x10 = x10) ∧ ((0 : Int) ≤ (5 : Int)) ∧ 
 (x10 = x10) ∧ (x10 = x10) ∧ (db = db) ∧ 
 Br (decide (x9.len ≤ (↑(x6.2.2) : Int)))
 ((x10 = x10) ∧ ((0 : Int) ≤ IntKind.wrap IntKind.u64 x9.len) ∧ 
 (x10 = x10) ∧ (inI64 x9.val) ∧ 
 ∃ x11 : (Nat), (x11 % (2 : Nat) ^ List.getD lens (Int.toNat (x8.1 : Int)) 0 = cval lens (Int.toNat (x8.1 : Int)) ∧ x11 < List.length (nats (ints x8.2)) + (2 : Nat) ^ List.getD lens (Int.toNat (x8.1 : Int)) 0) ∧ 
 (bitI BinOp.or IntKind.u32 (shlI IntKind.u32 x9.sym (5 : Int)) x9.len = (↑(Int.toNat (x8.1 : Int) * (32 : Nat) + List.getD lens (Int.toNat (x8.1 : Int)) 0) : Int)) ∧ 
 (shlI IntKind.i64 (1 : Int) (IntKind.wrap IntKind.u64 x9.len) = (↑((2 : Nat) ^ List.getD lens (Int.toNat (x8.1 : Int)) 0) : Int)) ∧ 
 (x9.val = (x11 : Int)) ∧ 
 (m = m) ∧ (relLe rel rel) ∧ 
 (db = db) ∧ (x5 = x5 ∧ (2 : Nat) ^ x6.2.2 = (2 : Nat) ^ x6.2.2) ∧ 
 (Value.slice none 0 0 = Value.slice none 0 0) ∧ ((↑((2 : Nat) ^ x6.2.2 - (1 : Nat)) : Int) = (↑((2 : Nat) ^ x6.2.2 - (1 : Nat)) : Int)) ∧ ((0 : Int) = (0 : Int)) ∧ ((↑(x6.2.2) : Int) = (↑(x6.2.2) : Int)) ∧ ((x6.1 : Int) = (x6.1 : Int)) ∧ ((↑(List.length lens) : Int) = (↑(List.length lens) : Int)) ∧ (x5 = x5 ∧ ints x8.2 = ints (fillAt (nats (ints x8.2)) 0 ((2 : Nat) ^ List.getD lens (Int.toNat (x8.1 : Int)) 0) (cval lens (Int.toNat (x8.1 : Int))) (Int.toNat (x8.1 : Int) * (32 : Nat) + List.getD lens (Int.toNat (x8.1 : Int)) 0) x11)) ∧ 
 (x10 = x10) ∧ (x9.sym = x9.sym) ∧ (x9.cnt = x9.cnt) ∧ (x9.len = x9.len) ∧ (x9.val = x9.val) ∧ ∀ x12 : (Nat), ((x12 % (2 : Nat) ^ List.getD lens (Int.toNat (x8.1 : Int)) 0 = cval lens (Int.toNat (x8.1 : Int)) ∧ x12 < List.length (nats (ints x8.2)) + (2 : Nat) ^ List.getD lens (Int.toNat (x8.1 : Int)) 0) → 
 (db = db) ∧ 
 Br (decide ((x12 : Int) < (↑((2 : Nat) ^ x6.2.2) : Int)))
 ((db = db) ∧ 
 (x5 = x5) ∧ (inRange (x12 : Int) (List.length (ints (fillAt (nats (ints x8.2)) 0 ((2 : Nat) ^ List.getD lens (Int.toNat (x8.1 : Int)) 0) (cval lens (Int.toNat (x8.1 : Int))) (Int.toNat (x8.1 : Int) * (32 : Nat) + List.getD lens (Int.toNat (x8.1 : Int)) 0) x12)))) ∧ 
 (x5 = x5 ∧ Int.toNat (x12 : Int) < List.length (ints (fillAt (nats (ints x8.2)) 0 ((2 : Nat) ^ List.getD lens (Int.toNat (x8.1 : Int)) 0) (cval lens (Int.toNat (x8.1 : Int))) (Int.toNat (x8.1 : Int) * (32 : Nat) + List.getD lens (Int.toNat (x8.1 : Int)) 0) x12))) ∧ 
 (inI64 ((x12 : Int) + (↑((2 : Nat) ^ List.getD lens (Int.toNat (x8.1 : Int)) 0) : Int))) ∧ 
 ∃ x13 : (Nat), ((x13 % (2 : Nat) ^ List.getD lens (Int.toNat (x8.1 : Int)) 0 = cval lens (Int.toNat (x8.1 : Int)) ∧ x13 < List.length (nats (ints x8.2)) + (2 : Nat) ^ List.getD lens (Int.toNat (x8.1 : Int)) 0) ∧ List.length (nats (ints x8.2)) + (2 : Nat) ^ List.getD lens (Int.toNat (x8.1 : Int)) 0 - x13 < List.length (nats (ints x8.2)) + (2 : Nat) ^ List.getD lens (Int.toNat (x8.1 : Int)) 0 - x12) ∧ 
 ((↑(Int.toNat (x8.1 : Int) * (32 : Nat) + List.getD lens (Int.toNat (x8.1 : Int)) 0) : Int) = (↑(Int.toNat (x8.1 : Int) * (32 : Nat) + List.getD lens (Int.toNat (x8.1 : Int)) 0) : Int)) ∧ ((↑((2 : Nat) ^ List.getD lens (Int.toNat (x8.1 : Int)) 0) : Int) = (↑((2 : Nat) ^ List.getD lens (Int.toNat (x8.1 : Int)) 0) : Int)) ∧ ((x12 : Int) + (↑((2 : Nat) ^ List.getD lens (Int.toNat (x8.1 : Int)) 0) : Int) = (x13 : Int)) ∧ 
 (m = m) ∧ (relLe rel rel) ∧ 
 (db = db) ∧ (x5 = x5 ∧ (2 : Nat) ^ x6.2.2 = (2 : Nat) ^ x6.2.2) ∧ 
 (Value.slice none 0 0 = Value.slice none 0 0) ∧ ((↑((2 : Nat) ^ x6.2.2 - (1 : Nat)) : Int) = (↑((2 : Nat) ^ x6.2.2 - (1 : Nat)) : Int)) ∧ ((0 : Int) = (0 : Int)) ∧ ((↑(x6.2.2) : Int) = (↑(x6.2.2) : Int)) ∧ ((x6.1 : Int) = (x6.1 : Int)) ∧ ((↑(List.length lens) : Int) = (↑(List.length lens) : Int)) ∧ (x5 = x5 ∧ List.set (ints (fillAt (nats (ints x8.2)) 0 ((2 : Nat) ^ List.getD lens (Int.toNat (x8.1 : Int)) 0) (cval lens (Int.toNat (x8.1 : Int))) (Int.toNat (x8.1 : Int) * (32 : Nat) + List.getD lens (Int.toNat (x8.1 : Int)) 0) x12)) (Int.toNat (x12 : Int)) (↑(Int.toNat (x8.1 : Int) * (32 : Nat) + List.getD lens (Int.toNat (x8.1 : Int)) 0) : Int) = ints (fillAt (nats (ints x8.2)) 0 ((2 : Nat) ^ List.getD lens (Int.toNat (x8.1 : Int)) 0) (cval lens (Int.toNat (x8.1 : Int))) (Int.toNat (x8.1 : Int) * (32 : Nat) + List.getD lens (Int.toNat (x8.1 : Int)) 0) x13)) ∧ 
 (x10 = x10) ∧ (x9.sym = x9.sym) ∧ (x9.cnt = x9.cnt) ∧ (x9.len = x9.len) ∧ (x9.val = x9.val) ∧ (True))
 ((inI64 ((x8.1 : Int) + (1 : Int))) ∧ 
 ∃ x13 : (Nat × List Nat), ((x13.1 ≤ List.length lens ∧ tabs lens (Int.toNat (↑(x6.2.2) : Int)) 0 (nats (ints (List.replicate ((2 : Nat) ^ x6.2.2) 0))) x13.1 x13.2 []) ∧ List.length lens - x13.1 < List.length lens - x8.1) ∧ 
 ((x8.1 : Int) + (1 : Int) = (x13.1 : Int)) ∧ 
 (m = m) ∧ (relLe rel rel) ∧ 
 (db = db) ∧ (x5 = x5 ∧ (2 : Nat) ^ x6.2.2 = (2 : Nat) ^ x6.2.2) ∧ 
 (Value.slice none 0 0 = Value.slice none 0 0) ∧ ((↑((2 : Nat) ^ x6.2.2 - (1 : Nat)) : Int) = (↑((2 : Nat) ^ x6.2.2 - (1 : Nat)) : Int)) ∧ ((0 : Int) = (0 : Int)) ∧ ((↑(x6.2.2) : Int) = (↑(x6.2.2) : Int)) ∧ ((x6.1 : Int) = (x6.1 : Int)) ∧ ((↑(List.length lens) : Int) = (↑(List.length lens) : Int)) ∧ (x5 = x5 ∧ ints (fillAt (nats (ints x8.2)) 0 ((2 : Nat) ^ List.getD lens (Int.toNat (x8.1 : Int)) 0) (cval lens (Int.toNat (x8.1 : Int))) (Int.toNat (x8.1 : Int) * (32 : Nat) + List.getD lens (Int.toNat (x8.1 : Int)) 0) x12) = ints x13.2) ∧ 
 (True))))
 ((db = db) ∧ 
 (x10 = x10) ∧ (db = db) ∧ 
 (x5 = x5) ∧ (inRange (bitI BinOp.and IntKind.u32 x9.val (↑((2 : Nat) ^ x6.2.2 - (1 : Nat)) : Int)) (List.length (ints x8.2))) ∧ 
 (x5 = x5) ∧ (Int.toNat (bitI BinOp.and IntKind.u32 x9.val (↑((2 : Nat) ^ x6.2.2 - (1 : Nat)) : Int)) < List.length (ints x8.2)) ∧ 
 ∀ x11 : (Int), (((ints x8.2)[Int.toNat (bitI BinOp.and IntKind.u32 x9.val (↑((2 : Nat) ^ x6.2.2 - (1 : Nat)) : Int))]? = some x11) → 
 ((0 : Int) ≤ (5 : Int)) ∧ 
 (db = db) ∧ 
 False /- "index: of what?" -/))))
 ((x5 = x5 ∧ (2 : Nat) ^ x6.2.2 = List.length (ints x8.2)) ∧ 
 (db = db) ∧ ∃ x9 : (DC × Rel TT), (relLe rel x9.2 ∧ decOK x9.2 lens x9.1) ∧ 
 (m = m) ∧ (relLe x9.2 rel) ∧ 
 (db = db) ∧ 
 (x5 = x9.1.cv ∧ ints x8.2 = ints x9.1.ch) ∧ 
 (Value.slice none 0 0 = Value.slice none 0 0 ∧ Value.slice none 0 0 = x9.1.lv ∧ x9.1.lk = []) ∧ 
 ((↑((2 : Nat) ^ x6.2.2 - (1 : Nat)) : Int) = (x9.1.cm : Int)) ∧ 
 ((0 : Int) = (x9.1.lm : Int)) ∧ 
 ((↑(x6.2.2) : Int) = (x9.1.cb : Int)) ∧ 
 ((x6.1 : Int) = (x9.1.mb : Int)) ∧ 
 ((↑(List.length lens) : Int) = (x9.1.ns : Int)) ∧ 
 (True))))))))))))
noncomputable def law_c100 (G : Gl) (m : Fz) (rel : Rel TT) (db : Nat) (cv : Value) (lens : List Nat) : VCT := fnx (CD G) (IND G b100 NA) (a100 db lens) Tryz.f100 (c100.args ⟨m, rel, db, cv, lens⟩) (c100.H ⟨m, rel, db, cv, lens⟩) (outB [2] true 3 (c100.ret ⟨m, rel, db, cv, lens⟩)) (c100.pan ⟨m, rel, db, cv, lens⟩)
theorem eq_c100 (G : Gl) (m : Fz) (rel : Rel TT) (db : Nat) (cv : Value) (lens : List Nat) : cond_c100 G m rel db cv lens = (law_c100 G m rel db cv lens).den := by kernel_rfl
theorem ok_c100 (G : Gl) (m : Fz) (rel : Rel TT) (db : Nat) (cv : Value) (lens : List Nat) (hg : Good lens) : cond_c100 G m rel db cv lens := by
  unfold cond_c100
  have hl := hg.two
  have h60 := hg.sixty
  have e3 : ∀ l : List Nat, nats (ints l) = l := nats_ints
  simp only [e3, br_d, br_i, rel_self, true_and, and_true, inRange, inI64, Int.toNat_natCast, ints_len, canonL_len, List.length_replicate, and_self]
  refine ⟨fun h1 => absurd h1 (by omega), fun _ => ⟨(0, 27, 0), ⟨Nat.zero_le _, mm_zero lens⟩, rfl, rfl, rfl, ?_⟩⟩
  rintro ⟨i, mn, mx⟩ ⟨hi, hmm⟩
  dsimp only at hi hmm ⊢
  refine ⟨fun h1 => ?_, fun h1 => ?_⟩
  · refine ⟨by omega, by omega, fun c hc _ => ?_⟩
    obtain ⟨hi', rfl⟩ := canon_at hc
    dsimp only
    refine ⟨fun h2 => ⟨fun h3 => ⟨by omega, (i + 1, lens.getD i 0, lens.getD i 0), ⟨⟨hi', mm_step hg hmm hi' (by dsimp only; omega) (by dsimp only; omega)⟩, by dsimp only; omega⟩, rfl, rfl, rfl⟩,
        fun h3 => ⟨by omega, (i + 1, lens.getD i 0, mx), ⟨⟨hi', mm_step hg hmm hi' (by dsimp only; omega) (by dsimp only; omega)⟩, by dsimp only; omega⟩, rfl, rfl, rfl⟩⟩,
      fun h2 => ⟨fun h3 => ⟨by omega, (i + 1, mn, lens.getD i 0), ⟨⟨hi', mm_step hg hmm hi' (by dsimp only; omega) (by dsimp only; omega)⟩, by dsimp only; omega⟩, rfl, rfl, rfl⟩,
        fun h3 => ⟨by omega, (i + 1, mn, mx), ⟨⟨hi', mm_step hg hmm hi' (by dsimp only; omega) (by dsimp only; omega)⟩, by dsimp only; omega⟩, rfl, rfl, rfl⟩⟩⟩
  obtain rfl : i = lens.length := by omega
  clear hi h1
  refine ⟨⟨fun h1 => ⟨9, by omega, rfl⟩, fun h1 => ⟨mx, by omega, rfl⟩⟩, ?_⟩
  intro cb hcb
  have hcb9 : cb ≤ 9 := by omega
  have p9 : (2 : Nat) ^ cb ≤ 2 ^ 9 := Nat.pow_le_pow_right (by decide) hcb9
  have p0 : 0 < (2 : Nat) ^ cb := Nat.pow_pos (by decide)
  simp only [shl1 (show cb ≤ 62 by omega), Int.toNat_natCast]
  refine ⟨by omega, fun m2 => ⟨⟨p0, by omega⟩, trivial, fun cx _ => ⟨⟨by omega, (mn, mx, cb), ⟨hmm, hcb⟩, rfl, rfl, ?_, rfl, rfl, w32 (by omega), rfl⟩, ?_⟩⟩⟩
  · dsimp only
    rw [show ((2 ^ cb : Nat) : Int) - 1 = ((2 ^ cb - 1 : Nat) : Int) by omega]
    exact w32 (by omega)
  clear hcb hmm hcb9 p9 p0
  clear cb mn mx
  rintro ⟨mn, mx, cb⟩ ⟨hmm, hcb⟩
  dsimp only at hmm hcb ⊢
  obtain ⟨hmx1, hall, jm, hjm, hjmx⟩ := mm_end hg hmm
  have hmx20 := hmm.hi
  have hmn := hmm.lo
  have hcb9 : cb ≤ 9 := by omega
  have p9 : (2 : Nat) ^ cb ≤ 2 ^ 9 := Nat.pow_le_pow_right (by decide) hcb9
  have p0 : 0 < (2 : Nat) ^ cb := Nat.pow_pos (by decide)
  refine ⟨fun hlt => ?_, fun hge => ?_⟩
  · have hlt : cb < mx := by omega
    obtain ⟨lb, hlb⟩ : ∃ lb, mx = cb + lb := ⟨mx - cb, by omega⟩
    have hlb11 : lb ≤ 11 := by omega
    have e1 : mx - cb = lb := by omega
    simp only [w32s (Nat.le_of_lt hlt) (show mx < 2 ^ 32 by omega), e1, shl1 (show lb ≤ 62 by omega)]
    have q9 : (2 : Nat) ^ lb ≤ 2 ^ 11 := Nat.pow_le_pow_right (by decide) hlb11
    have q0 : 0 < (2 : Nat) ^ lb := Nat.pow_pos (by decide)
    refine ⟨by omega, ⟨by omega, (), trivial, ?_⟩, fun _ _ => ⟨0, Nat.zero_le _, rfl, fun z hz => ⟨fun h1 => ?_, fun h1 => ?_⟩⟩⟩
    · rw [show ((2 ^ lb : Nat) : Int) - 1 = ((2 ^ lb - 1 : Nat) : Int) by omega]
      exact w32 (by omega)
    · exact ⟨by omega, by omega, by omega, z + 1, by omega, rfl, zeros_set _ _⟩
    clear h1 hz
    refine ⟨(0, List.replicate (2 ^ cb) 0, 0), ⟨Nat.zero_le _, link_zero lens cb⟩, rfl, rfl, rfl, ?_⟩
    rintro ⟨i, L, n⟩ ⟨hi, hL⟩
    dsimp only at hi hL ⊢
    have hn := hL.le
    have hLl := hL.len
    refine ⟨fun h1 => ?_, fun h1 => ?_⟩
    · refine ⟨by omega, by omega, fun c hc _ => ?_⟩
      obtain ⟨hi', rfl⟩ := canon_at hc
      dsimp only
      have hv := cval_small hg hi'
      simp only [maskC (show cval lens i < 2 ^ 32 by omega) hcb9, Int.toNat_natCast]
      have hq : cval lens i % 2 ^ cb < 2 ^ cb := Nat.mod_lt _ p0
      refine ⟨fun h2 => ⟨by omega, by omega, fun w hw => ?_⟩, fun h2 => ⟨by omega, (i + 1, L, n), ⟨⟨hi', link_skip hL (fun h3 => h2 (by omega))⟩, by dsimp only; omega⟩, rfl, rfl, rfl⟩⟩
      obtain ⟨_, rfl⟩ := ints_getD hw
      refine ⟨fun h3 => ⟨by decide, by omega, by omega, by omega, (i + 1, L.set (cval lens i % 2 ^ cb) (n * 32 + (cb + 1)), n + 1), ⟨⟨hi', link_new hL (Int.ofNat.inj h3)⟩, by dsimp only; omega⟩, rfl, ?_, ?_⟩, fun h3 => ⟨by omega, (i + 1, L, n), ⟨⟨hi', link_skip hL (fun h4 => h3 (congrArg Int.ofNat h4.2))⟩, by dsimp only; omega⟩, rfl, rfl, rfl⟩⟩
      · exact w32 (n := n + 1) (by omega)
      · rw [show IntKind.u32.wrap ((cb : Int) + 1) = ((cb + 1 : Nat) : Int) from w32 (n := cb + 1) (by omega), chunkN (by omega) (by omega)]
        exact ints_set _ _ _
    obtain rfl : i = lens.length := by omega
    clear hi h1
    have hn0 : 0 < n := by
      obtain ⟨k, hk, _⟩ := hL.val _ (hL.ex jm hjm (by omega))
      omega
    have hnl : 2 ^ lb * n ≤ 2 ^ 11 * 60 := Nat.mul_le_mul q9 (by omega)
    have hnl0 : 0 < 2 ^ lb * n := Nat.mul_pos q0 hn0
    have e2 : ((2 ^ lb : Nat) : Int) * (n : Int) = ((2 ^ lb * n : Nat) : Int) := by rw [Int.natCast_mul]
    simp only [e2, Int.toNat_natCast]
    refine ⟨by omega, fun _ => ⟨by omega, fun lx _ => ⟨by omega, hn0, fun sl hsl => ⟨by omega, by omega, fun _ => ⟨by omega, ?_, trivial, fun fx _ => ?_⟩⟩⟩⟩⟩
    · have : sl = slN := by
        rw [List.getElem?_replicate, if_pos hn0] at hsl
        exact (Option.some.inj hsl).symm
      subst this
      exact ⟨rfl, rfl⟩
    clear hsl sl
    refine ⟨(0, List.replicate n slN), ⟨Nat.zero_le _, ⟨List.length_replicate, fun s hs => by omega⟩⟩, rfl, by simp, rfl, ?_⟩
    rintro ⟨t, lk⟩ ⟨ht, hlk⟩
    dsimp only at ht hlk ⊢
    have hlkl := hlk.len
    refine ⟨fun h1 => ?_, fun h1 => ?_⟩
    · have ht1 : (t + 1) * 2 ^ lb ≤ n * 2 ^ lb := Nat.mul_le_mul_right _ (by omega)
      rw [Nat.mul_comm n] at ht1
      have e4 : ((t * 2 ^ lb : Nat) : Int) + ((2 ^ lb : Nat) : Int) = (((t + 1) * 2 ^ lb : Nat) : Int) := by rw [Nat.add_mul, Nat.one_mul, Int.natCast_add]
      have e5 : (t + 1) * 2 ^ lb - t * 2 ^ lb = 2 ^ lb := by rw [Nat.add_mul, Nat.one_mul, Nat.add_sub_cancel_left]
      have e6 : t * 2 ^ lb ≤ (t + 1) * 2 ^ lb := Nat.mul_le_mul_right _ (by omega)
      simp only [e4, Int.toNat_natCast, e5]
      refine ⟨by omega, by omega, by omega, fun A c hA => ⟨by omega, by omega, by omega, (t + 1, lk.set t ⟨A, 2 ^ lb, c⟩), ⟨⟨by dsimp only; omega, ⟨by rw [List.length_set]; exact hlkl, fun s hs => ?_⟩⟩, by dsimp only; omega⟩, rfl, rfl, rfl⟩⟩
      by_cases e : s = t
      · subst e
        exact ⟨⟨A, 2 ^ lb, c⟩, by rw [List.getElem?_set, if_pos rfl, if_pos (by omega)], hA.symm, rfl⟩
      · obtain ⟨sl, h2, h3, h4⟩ := hlk.at_ s (by omega)
        exact ⟨sl, by rw [List.getElem?_set, if_neg (by omega)]; exact h2, h3, h4⟩
    obtain rfl : t = n := by omega
    clear ht h1
    refine ⟨(0, L, List.replicate (2 ^ lb * t) 0), ⟨Nat.zero_le _, tabs_zero hLl, List.length_replicate⟩, rfl, rfl, rfl, ?_⟩
    rintro ⟨i, C, F⟩ ⟨hi, hT, hF⟩
    dsimp only at hi hT hF ⊢
    have hCl := hT.len
    refine ⟨fun h1 => ?_, fun h1 => ?_⟩
    · refine ⟨by omega, by omega, fun c hc _ => ?_⟩
      obtain ⟨hi', rfl⟩ := canon_at hc
      dsimp only
      have hv := cval_small hg hi'
      have hlt2 := cval_lt lens i
      have hlp := hg.pos _ (getD_mem hi')
      have hle : lens.getD i 0 ≤ mx := (hmm.all i hi').2
      have hcl := cval_cl hg hi'
      have hcd := cval_cd hg hi'
      have hch := cval_hit lens i
      have hq : cval lens i % 2 ^ cb < 2 ^ cb := Nat.mod_lt _ p0
      simp only [w64 (show lens.getD i 0 < 2 ^ 64 by omega), chunkN (show i ≤ 60 by omega) hlp.2, shl1 (show lens.getD i 0 ≤ 62 by omega), maskC (show cval lens i < 2 ^ 32 by omega) hcb9, Int.toNat_natCast, fillAt_len, true_and]
      refine ⟨by decide, fun h2 => ?_, fun h2 => ?_⟩
      · have hle2 : lens.getD i 0 ≤ cb := by omega
        have r9 : (2 : Nat) ^ lens.getD i 0 ≤ 2 ^ 20 := Nat.pow_le_pow_right (by decide) hlp.2
        refine ⟨by omega, by omega, cval lens i, ⟨Nat.mod_eq_of_lt hlt2, by omega⟩, rfl, congrArg ints (fillAt_zero hlt2).symm, fun j hj => ⟨fun h3 => ⟨by omega, by omega, by omega, j + 2 ^ lens.getD i 0, ⟨⟨by rw [Nat.add_mod_right]; exact hj.1, by omega⟩, by omega⟩, by rw [Int.natCast_add], ?_⟩, fun h3 => ⟨by omega, (i + 1, fillAt C 0 (2 ^ lens.getD i 0) (cval lens i) (i * 32 + lens.getD i 0) j, F), ⟨⟨hi', tabs_short hg hT hi' hle2 (j := j) (by omega), hF⟩, by dsimp only; omega⟩, rfl, rfl, rfl⟩⟩⟩
        have := fillAt_step (C := C) (off := 0) (ch := i * 32 + lens.getD i 0) hlt2 hj.1 (by omega)
        rw [Nat.zero_add] at this
        rw [ints_set, this]
      · have hlt3 : cb < lens.getD i 0 := by omega
        refine ⟨by omega, by omega, fun w hw => ?_⟩
        obtain ⟨_, rfl⟩ := ints_getD hw
        have hp := hT.ptr (cval lens i) (by omega)
        obtain ⟨k, hk, hk2⟩ := hL.val (cval lens i % 2 ^ cb) (hL.ex i hi' hlt3)
        have hCk : C.getD (cval lens i % 2 ^ cb) 0 = k * 32 + (cb + 1) := by
          rw [List.getD_eq_getElem?_getD, hp, ← List.getD_eq_getElem?_getD]; exact hk2
        have hK : lkAt lens C i cb = k := by unfold lkAt; omega
        have hC5 : C.getD (cval lens i % 2 ^ cb) 0 / 32 = k := by omega
        simp only [shr5, hC5, hK, Int.toNat_natCast, w32s (Nat.le_of_lt hlt3) (show lens.getD i 0 < 2 ^ 32 by omega), w64 (show lens.getD i 0 - cb < 2 ^ 64 by omega), shl1 (show lens.getD i 0 - cb ≤ 62 by omega), shr32 (show cb ≤ 32 by omega), true_and]
        have hdv : cval lens i / 2 ^ cb < 2 ^ (lens.getD i 0 - cb) := by
          refine Nat.div_lt_of_lt_mul ?_
          rw [← Nat.pow_add, show cb + (lens.getD i 0 - cb) = lens.getD i 0 by omega]
          exact hlt2
        have hdle : cval lens i / 2 ^ cb ≤ cval lens i := Nat.div_le_self _ _
        have r9 : (2 : Nat) ^ (lens.getD i 0 - cb) ≤ 2 ^ 20 := Nat.pow_le_pow_right (by decide) (by omega)
        have hk1 : (k + 1) * 2 ^ lb ≤ t * 2 ^ lb := Nat.mul_le_mul_right _ (by omega)
        rw [Nat.mul_comm t] at hk1
        have hk3 : (k + 1) * 2 ^ lb = k * 2 ^ lb + 2 ^ lb := by rw [Nat.add_mul, Nat.one_mul]
        have hdi : (0 : Int) ≤ ((cval lens i / 2 ^ cb : Nat) : Int) := Int.natCast_nonneg _
        have hkn : (lkAt lens C i cb) = L.getD (cval lens i % 2 ^ cb) 0 / 32 := by rw [hK]; omega
        refine ⟨by decide, by omega, by omega, fun sl hsl => ⟨by omega, by omega, by omega, cval lens i / 2 ^ cb, ⟨Nat.mod_eq_of_lt hdv, by omega⟩, ?_, rfl, congrArg ints (fillAt_zero hdv).symm, fun j hj => ⟨fun h3 => ⟨(k * 2 ^ lb, (k + 1) * 2 ^ lb), ⟨rfl, by dsimp only; omega, by dsimp only; omega⟩, by dsimp only; omega, by dsimp only; omega, by omega, j + 2 ^ (lens.getD i 0 - cb), ⟨⟨by rw [Nat.add_mod_right]; exact hj.1, by omega⟩, by omega⟩, by rw [Int.natCast_add], ?_⟩, fun h3 => ⟨by omega, (i + 1, C, fillAt F (k * 2 ^ lb) (2 ^ (lens.getD i 0 - cb)) (cval lens i / 2 ^ cb) (i * 32 + lens.getD i 0) j), ⟨⟨hi', ?_, by dsimp only; rw [fillAt_len]; exact hF⟩, by dsimp only; omega⟩, rfl, rfl, rfl⟩⟩⟩⟩
        · obtain ⟨sl', g1, g2, g3⟩ := hlk.at_ k hk
          obtain rfl : sl' = sl := Option.some.inj (g1.symm.trans hsl)
          exact ⟨g2, g3⟩
        · rw [ints_set]
          exact congrArg ints (fillAt_step hdv hj.1 (by omega))
        · rw [fillAt_stop (m := 2 ^ lb) (by omega) hj.2 hj.1]
          have := tabs_long hg hT hL hi' hlt3 (by omega) (by rw [Nat.mul_comm]; omega) hcb9 (j := 2 ^ lb) rfl
          rw [← hkn, hK] at this
          exact this
    obtain rfl : i = lens.length := by omega
    refine ⟨hCl.symm, hlkl.symm, (⟨db, cx, C, lx, lk, 2 ^ cb - 1, 2 ^ lb - 1, cb, mn, lens.length⟩, relAdd rel 43 fx (ints F)), ⟨relLe.add _ _ _ _, ⟨hg, ⟨by dsimp only; omega, hcb9⟩, rfl, hCl, ⟨hmn.1, fun v => (hall v).1⟩, fun v hv => hT.short v (cd_hit hg v).1 hv, fun v hv => ?_⟩⟩, relLe.refl _, ⟨rfl, rfl⟩, ⟨rfl, rfl⟩, rfl, rfl, rfl, rfl, rfl⟩
    obtain ⟨k, hk, g1, g2⟩ := tabs_end hg hT hL hcb9 hv
    obtain ⟨sl, g3, g4, g5⟩ := hlk.at_ k hk
    have hk1 : (k + 1) * 2 ^ lb ≤ t * 2 ^ lb := Nat.mul_le_mul_right _ (by omega)
    rw [Nat.mul_comm t] at hk1
    have hk3 : (k + 1) * 2 ^ lb = k * 2 ^ lb + 2 ^ lb := by rw [Nat.add_mul, Nat.one_mul]
    have hle3 : ((F.take ((k + 1) * 2 ^ lb)).drop (k * 2 ^ lb)).length = 2 ^ lb := by
      rw [List.length_drop, List.length_take]; omega
    have hFl : (k + 1) * 2 ^ lb ≤ (ints F).length := by rw [ints_len]; omega
    refine ⟨k, sl, (F.take ((k + 1) * 2 ^ lb)).drop (k * 2 ^ lb), lb, g1, by omega, g3, .inl (.inr ⟨rfl, k * 2 ^ lb, (k + 1) * 2 ^ lb, by omega, hFl, g4, ?_⟩), by rw [hle3]; exact g5, hlb11, rfl, hle3, ?_⟩
    · show ints _ = ((ints F).take ((k + 1) * 2 ^ lb)).drop (k * 2 ^ lb)
      unfold ints
      rw [List.map_drop, List.map_take]
    · rw [part_get (Nat.mod_lt _ q0)]
      exact g2
  · have hge : cb = mx := by omega
    refine ⟨(0, List.replicate (2 ^ cb) 0), ⟨Nat.zero_le _, tabs_zero List.length_replicate⟩, rfl, rfl, ?_⟩
    rintro ⟨i, C⟩ ⟨hi, hT⟩
    dsimp only at hi hT ⊢
    have hCl := hT.len
    refine ⟨fun h1 => ?_, fun h1 => ?_⟩
    · refine ⟨by omega, by omega, fun c hc _ => ?_⟩
      obtain ⟨hi', rfl⟩ := canon_at hc
      dsimp only
      have hv := cval_small hg hi'
      have hlt2 := cval_lt lens i
      have hlp := hg.pos _ (getD_mem hi')
      have hle : lens.getD i 0 ≤ mx := (hmm.all i hi').2
      simp only [w64 (show lens.getD i 0 < 2 ^ 64 by omega), chunkN (show i ≤ 60 by omega) hlp.2, shl1 (show lens.getD i 0 ≤ 62 by omega), fillAt_len, true_and]
      refine ⟨by decide, fun h2 => ?_, fun h2 => absurd hle (by omega)⟩
      have hle2 : lens.getD i 0 ≤ cb := by omega
      have r9 : (2 : Nat) ^ lens.getD i 0 ≤ 2 ^ 20 := Nat.pow_le_pow_right (by decide) hlp.2
      refine ⟨by omega, by omega, cval lens i, ⟨Nat.mod_eq_of_lt hlt2, by omega⟩, rfl, congrArg ints (fillAt_zero hlt2).symm, fun j hj => ⟨fun h3 => ⟨by omega, by omega, by omega, j + 2 ^ lens.getD i 0, ⟨⟨by rw [Nat.add_mod_right]; exact hj.1, by omega⟩, by omega⟩, by rw [Int.natCast_add], ?_⟩, fun h3 => ⟨by omega, (i + 1, fillAt C 0 (2 ^ lens.getD i 0) (cval lens i) (i * 32 + lens.getD i 0) j), ⟨⟨hi', tabs_short hg hT hi' hle2 (j := j) (by omega)⟩, by dsimp only; omega⟩, rfl, rfl⟩⟩⟩
      have := fillAt_step (C := C) (off := 0) (ch := i * 32 + lens.getD i 0) hlt2 hj.1 (by omega)
      rw [Nat.zero_add] at this
      rw [ints_set, this]
    obtain rfl : i = lens.length := by omega
    exact ⟨hCl.symm, (⟨db, cx, C, .slice none 0 0, [], 2 ^ cb - 1, 0, cb, mn, lens.length⟩, rel), ⟨relLe.refl _, ⟨hg, ⟨by dsimp only; omega, hcb9⟩, rfl, hCl, ⟨hmn.1, fun v => (hall v).1⟩, fun v hv => hT.short v (cd_hit hg v).1 hv, fun v hv => absurd (hall v).2 (by dsimp only at hv; omega)⟩⟩, relLe.refl _, ⟨rfl, rfl⟩, ⟨rfl, rfl⟩, rfl, rfl, rfl, rfl, rfl⟩
theorem s100 (G : Gl) : SpecOK (CC G) 100 c100.pt := specD G (b100_ok G) (fn := Tryz.f100) rfl NA [2] c100 (fun x => a100 x.db x.lens) fun ⟨m, rel, db, cv, lens⟩ h => Met.of (eq_c100 G m rel db cv lens) (ok_c100 G m rel db cv lens h)
end Pc
/-
  codes and rangeCodes do what their contracts say.
-/
set_option linter.unusedVariables false
set_option maxRecDepth 100000
open Go Go.Vg Go.Proofs
namespace Pc
def cond_c62 (G : Gl) (m : Fz) (rel : Rel TT) (v : Value) (ns : List Nat) : Prop :=
 ∀ x1 : (Nat), ∃ x2 : (Nat × Value), (x2.1 ≤ List.length ns) ∧ 
 (Value.slice (some (Addr.mk x1 0 none)) 0 0 = x2.2 ∧ (0 : Nat) = x2.1) ∧ 
 ((0 : Int) = (x2.1 : Int)) ∧ 
 (m = m) ∧ (relLe rel rel) ∧ 
 (Value.slice (some (Addr.mk x1 0 none)) 0 0 = x2.2 ∧ [] = List.take x2.1 (canonL ns)) ∧ 
 ∀ x3 : (Nat × Value), ((x3.1 ≤ List.length ns) → 
 Br (decide ((x3.1 : Int) < (↑(List.length (canonL ns)) : Int)))
 ((inRange (x3.1 : Int) (List.length (canonL ns))) ∧ 
 (Int.toNat (x3.1 : Int) < List.length (canonL ns)) ∧ 
 ∀ x4 : (Cd), (((canonL ns)[Int.toNat (x3.1 : Int)]? = some x4) → 
 ∀ x5 : (Nat), (x5 = x5) ∧ (x5 = x5) ∧ (x5 = x5) ∧ (x5 = x5) ∧ (x5 = x5) ∧ ∀ x6 : (Nat), (x3.2 = x3.2 ∧ x3.1 = List.length (List.take x3.1 (canonL ns))) ∧ 
 (Value.slice (some (Addr.mk x6 0 none)) 1 1 = Value.slice (some (Addr.mk x6 0 none)) 1 1 ∧ (1 : Nat) = List.length [Cd.mk x4.sym x4.cnt x4.len x4.val]) ∧ 
 (room (List.length (List.take x3.1 (canonL ns)) + List.length [Cd.mk x4.sym x4.cnt x4.len x4.val]) 16) ∧ 
 ∀ x7 : (Value), (inI64 ((x3.1 : Int) + (1 : Int))) ∧ 
 ∃ x8 : (Nat × Value), (x8.1 ≤ List.length ns ∧ List.length ns - x8.1 < List.length ns - x3.1) ∧ 
 (x7 = x8.2 ∧ x3.1 + List.length [Cd.mk x4.sym x4.cnt x4.len x4.val] = x8.1) ∧ 
 ((x3.1 : Int) + (1 : Int) = (x8.1 : Int)) ∧ 
 (m = m) ∧ (relLe rel (relAdd rel 210 (Value.slice (some (Addr.mk x6 0 none)) 1 1) [Cd.mk x4.sym x4.cnt x4.len x4.val])) ∧ 
 (x7 = x8.2 ∧ List.take x3.1 (canonL ns) ++ [Cd.mk x4.sym x4.cnt x4.len x4.val] = List.take x8.1 (canonL ns)) ∧ 
 (True)))
 ((x3.2 = x3.2 ∧ x3.1 = List.length (List.take x3.1 (canonL ns))) ∧ 
 ∃ x4 : (Value), (True) ∧ 
 (x3.2 = x4 ∧ List.take x3.1 (canonL ns) = canonL ns) ∧ 
 (m = m) ∧ (relLe rel rel) ∧ 
 (True)))
noncomputable def law_c62 (G : Gl) (m : Fz) (rel : Rel TT) (v : Value) (ns : List Nat) : VCT := fnx (CC G) (IN G no NA) (a62 ns) Tryz.f62 (c62.args (m, rel, v, ns)) (c62.H (m, rel, v, ns)) (outK true 2 (c62.ret (m, rel, v, ns))) (c62.pan (m, rel, v, ns))
theorem eq_c62 (G : Gl) (m : Fz) (rel : Rel TT) (v : Value) (ns : List Nat) : cond_c62 G m rel v ns = (law_c62 G m rel v ns).den := by kernel_rfl
def cond_c64 (G : Gl) (m : Fz) (rel : Rel TT) (v : Value) (ns : List Nat) : Prop :=
 ∃ x1 : (Nat × Value), (x1.1 ≤ List.length ns) ∧ 
 (Value.slice none 0 0 = x1.2 ∧ (0 : Nat) = x1.1) ∧ 
 ((0 : Int) = (x1.1 : Int)) ∧ 
 (m = m) ∧ (relLe rel rel) ∧ 
 (Value.slice none 0 0 = x1.2 ∧ [] = List.take x1.1 (rgL 0 ns)) ∧ 
 ∀ x2 : (Nat × Value), ((x2.1 ≤ List.length ns) → 
 Br (decide ((x2.1 : Int) < (↑(List.length (rgL 0 ns)) : Int)))
 ((inRange (x2.1 : Int) (List.length (rgL 0 ns))) ∧ 
 (Int.toNat (x2.1 : Int) < List.length (rgL 0 ns)) ∧ 
 ∀ x3 : (Rg), (((rgL 0 ns)[Int.toNat (x2.1 : Int)]? = some x3) → 
 ∀ x4 : (Nat), (x4 = x4) ∧ (x4 = x4) ∧ (x4 = x4) ∧ ∀ x5 : (Nat), (x2.2 = x2.2 ∧ x2.1 = List.length (List.take x2.1 (rgL 0 ns))) ∧ 
 (Value.slice (some (Addr.mk x5 0 none)) 1 1 = Value.slice (some (Addr.mk x5 0 none)) 1 1 ∧ (1 : Nat) = List.length [Rg.mk x3.base x3.len]) ∧ 
 (room (List.length (List.take x2.1 (rgL 0 ns)) + List.length [Rg.mk x3.base x3.len]) 8) ∧ 
 ∀ x6 : (Value), (inI64 ((x2.1 : Int) + (1 : Int))) ∧ 
 ∃ x7 : (Nat × Value), (x7.1 ≤ List.length ns ∧ List.length ns - x7.1 < List.length ns - x2.1) ∧ 
 (x6 = x7.2 ∧ x2.1 + List.length [Rg.mk x3.base x3.len] = x7.1) ∧ 
 ((x2.1 : Int) + (1 : Int) = (x7.1 : Int)) ∧ 
 (m = m) ∧ (relLe rel (relAdd rel 215 (Value.slice (some (Addr.mk x5 0 none)) 1 1) [Rg.mk x3.base x3.len])) ∧ 
 (x6 = x7.2 ∧ List.take x2.1 (rgL 0 ns) ++ [Rg.mk x3.base x3.len] = List.take x7.1 (rgL 0 ns)) ∧ 
 (True)))
 ((x2.2 = x2.2 ∧ x2.1 = List.length (List.take x2.1 (rgL 0 ns))) ∧ 
 ∃ x3 : (Value), (True) ∧ 
 (x2.2 = x3 ∧ List.take x2.1 (rgL 0 ns) = rgL 0 ns) ∧ 
 (m = m) ∧ (relLe rel rel) ∧ 
 (True)))
noncomputable def law_c64 (G : Gl) (m : Fz) (rel : Rel TT) (v : Value) (ns : List Nat) : VCT := fnx (CC G) (IN G no NA) (a64 ns) Tryz.f64 (c64.args (m, rel, v, ns)) (c64.H (m, rel, v, ns)) (outK true 2 (c64.ret (m, rel, v, ns))) (c64.pan (m, rel, v, ns))
theorem eq_c64 (G : Gl) (m : Fz) (rel : Rel TT) (v : Value) (ns : List Nat) : cond_c64 G m rel v ns = (law_c64 G m rel v ns).den := by kernel_rfl
theorem ok_c62 (G : Gl) (m : Fz) (rel : Rel TT) (v : Value) (ns : List Nat) (h : ns.length ≤ 60) : cond_c62 G m rel v ns := by
  unfold cond_c62
  simp only [br_d, Int.toNat_natCast, canonL_len, List.length_take, List.length_cons, List.length_nil, inRange, inI64, room, rel_self, true_and, and_true]
  refine fun b => ⟨(0, _), Nat.zero_le _, ⟨rfl, rfl⟩, rfl, ⟨rfl, rfl⟩, fun y hy => ⟨fun h1 => ⟨by omega, by omega, fun c hc _ b2 => ⟨by omega, by omega, fun w => ⟨by omega, (y.1 + 1, w), ⟨by dsimp only; omega, by dsimp only; omega⟩, ⟨rfl, rfl⟩, by simp, relLe.add _ _ _ _, rfl, (take_succ hc).symm⟩⟩⟩, fun h1 => ⟨by omega, y.2, rfl, ?_⟩⟩⟩
  rw [List.take_of_length_le (by rw [canonL_len]; omega)]
theorem ok_c64 (G : Gl) (m : Fz) (rel : Rel TT) (v : Value) (ns : List Nat) (h : ns.length ≤ 30) : cond_c64 G m rel v ns := by
  unfold cond_c64
  simp only [br_d, Int.toNat_natCast, rgL_len, List.length_take, List.length_cons, List.length_nil, inRange, inI64, room, rel_self, true_and, and_true]
  refine ⟨(0, _), Nat.zero_le _, ⟨rfl, rfl⟩, rfl, ⟨rfl, rfl⟩, fun y hy => ⟨fun h1 => ⟨by omega, by omega, fun c hc _ b2 => ⟨by omega, by omega, fun w => ⟨by omega, (y.1 + 1, w), ⟨by dsimp only; omega, by dsimp only; omega⟩, ⟨rfl, rfl⟩, by simp, relLe.add _ _ _ _, rfl, (take_succ hc).symm⟩⟩⟩, fun h1 => ⟨by omega, y.2, rfl, ?_⟩⟩⟩
  rw [List.take_of_length_le (by rw [rgL_len]; omega)]
theorem s62 (G : Gl) : SpecOK (CC G) 62 c62.pt := spec G (no_ok G) (fn := Tryz.f62) rfl NA c62 (fun x => a62 x.2.2.2) fun ⟨m, rel, v, ns⟩ h => Met.of (eq_c62 G m rel v ns) (ok_c62 G m rel v ns h)
theorem s64 (G : Gl) : SpecOK (CC G) 64 c64.pt := spec G (no_ok G) (fn := Tryz.f64) rfl NA c64 (fun x => a64 x.2.2.2) fun ⟨m, rel, v, ns⟩ h => Met.of (eq_c64 G m rel v ns) (ok_c64 G m rel v ns h)
end Pc
/-
  Read does what its contract says.
-/
set_option linter.unusedVariables false
set_option maxRecDepth 100000
open Go Go.Vg Go.Proofs
namespace Pc
def cond_c230 (G : Gl) (P : Nat) (x : RS) (b : BF) : Prop :=
 (x.rb = x.rb) ∧ Br (decide ((x.num : Int) > (0 : Int)))
 ((x.rb = x.rb) ∧ ((8 : Int) ≠ (0 : Int)) ∧ 
 Br (Int.tmod (x.num : Int) (8 : Int) != (0 : Int))
 (((∃ x1 : (RV × Nat), (read230 x b x1.1 x1.2) ∧ 
 ((0 : Int) = (x1.2 : Int)) ∧ 
 False /- "match: values of two makes" -/) ∨
 (∃ x1 : (RV), (eof230 x x1) ∧ 
 ((0 : Int) = (0 : Int)) ∧ 
 False /- "match: values of two makes" -/)))
 (∃ x1 : (Nat × Nat), (x1.1 ≤ BF.hi b - BF.lo b ∧ (8 : Nat) * x1.1 ≤ Int.toNat (x.num : Int) ∧ bkOK (RS.W x / (2 : Nat) ^ ((8 : Nat) * x1.1)) x1.2 (Int.toNat (x.num : Int) - (8 : Nat) * x1.1)) ∧ 
 ((0 : Int) = (x1.1 : Int)) ∧ 
 (x.m = x.m) ∧ (relLe x.rel x.rel) ∧ 
 (x.rb = x.rb) ∧ 
 ((x.off : Int) = (↑(Int.toNat (x.off : Int)) : Int)) ∧ 
 (x.sb = x.sb ∧ Off.lit 0 = Off.lit 0) ∧ 
 (Value.nilIface = Value.nilIface) ∧ (x.bb = x.bb ∧ Off.lit 0 = Off.lit 0) ∧ 
 ((x.bits : Int) = (x1.2 : Int)) ∧ 
 ((x.num : Int) = (↑(Int.toNat (x.num : Int) - (8 : Nat) * x1.1) : Int)) ∧ 
 (x.big = x.big) ∧ 
 (x.pk = x.pk ∧ x.pkn = x.pkn) ∧ 
 (x.dis = x.dis) ∧ 
 ((x.fed : Int) = (↑(Int.toNat (x.fed : Int)) : Int)) ∧ 
 (Value.pointer none = Value.pointer none) ∧ (x.bb = x.bb ∧ Off.lit 0 = Off.lit 0) ∧ 
 (Value.pointer none = Value.pointer none) ∧ (x.sb = x.sb) ∧ (x.vs = x.vs ∧ ints x.bs = ints x.bs) ∧ 
 ((x.off : Int) = (x.off : Int)) ∧ (x.prev = x.prev) ∧ (x.bb = x.bb) ∧ (x.sb = x.sb ∧ Off.lit 0 = Off.lit 0) ∧ 
 ((x.pos : Int) = (x.pos : Int)) ∧ (x.bv = x.bv ∧ x.bn = x.bn) ∧ 
 ((512 : Nat) = (512 : Nat) ∧ x.arr = x.arr) ∧ 
 (BF.ox b = BF.ox b ∧ BF.l b = putAt (BF.l b) (BF.lo b) (List.take x1.1 (List.drop (RS.P x / (8 : Nat)) x.bs))) ∧ 
 ∀ x2 : (Nat × Nat), ((x2.1 ≤ BF.hi b - BF.lo b ∧ (8 : Nat) * x2.1 ≤ Int.toNat (x.num : Int) ∧ bkOK (RS.W x / (2 : Nat) ^ ((8 : Nat) * x2.1)) x2.2 (Int.toNat (x.num : Int) - (8 : Nat) * x2.1)) → 
 Br (decide ((↑(BF.hi b - BF.lo b) : Int) > (x2.1 : Int)))
 ((x.rb = x.rb) ∧ 
 Br (decide ((↑(Int.toNat (x.num : Int) - (8 : Nat) * x2.1) : Int) > (0 : Int)))
 ((x.rb = x.rb) ∧ 
 Br x.big
 ((x.rb = x.rb) ∧ 
 ∀ x3 : (Nat → Option Obj), (Int.toNat (IntKind.wrap IntKind.u8 (x2.2 : Int)) < (256 : Nat)) ∧ 
 (IntKind.wrap IntKind.u8 (x2.2 : Int) = (↑(Int.toNat (IntKind.wrap IntKind.u8 (x2.2 : Int))) : Int)) ∧ 
 (x3 = x3) ∧ 
 (relLe x.rel x.rel) ∧ 
 ∀ x4 : (Unit), ((True) → 
 (x3 = x3) ∧ 
 (BF.ox b = BF.ox b) ∧ 
 (inRange (x2.1 : Int) (BF.hi b - BF.lo b) ∧ BF.hi b ≤ List.length (putAt (BF.l b) (BF.lo b) (List.take x2.1 (List.drop (RS.P x / (8 : Nat)) x.bs)))) ∧ 
 (BF.ox b = BF.ox b ∧ BF.lo b + Int.toNat (x2.1 : Int) < List.length (putAt (BF.l b) (BF.lo b) (List.take x2.1 (List.drop (RS.P x / (8 : Nat)) x.bs)))) ∧ 
 (x.rb = x.rb) ∧ 
 ((0 : Int) ≤ (8 : Int)) ∧ 
 (x.rb = x.rb) ∧ 
 (x.rb = x.rb) ∧ 
 (x.rb = x.rb) ∧ 
 (inI64 ((x2.1 : Int) + (1 : Int))) ∧ 
 ∃ x5 : (Nat × Nat), ((x5.1 ≤ BF.hi b - BF.lo b ∧ (8 : Nat) * x5.1 ≤ Int.toNat (x.num : Int) ∧ bkOK (RS.W x / (2 : Nat) ^ ((8 : Nat) * x5.1)) x5.2 (Int.toNat (x.num : Int) - (8 : Nat) * x5.1)) ∧ BF.hi b - BF.lo b - x5.1 < BF.hi b - BF.lo b - x2.1) ∧ 
 ((x2.1 : Int) + (1 : Int) = (x5.1 : Int)) ∧ 
 (x.m = x.m) ∧ (relLe x.rel x.rel) ∧ 
 (x.rb = x.rb) ∧ ((↑(Int.toNat (x.off : Int)) : Int) = (↑(Int.toNat (x.off : Int)) : Int)) ∧ (x.sb = x.sb ∧ Off.lit 0 = Off.lit 0) ∧ 
 (Value.nilIface = Value.nilIface) ∧ (x.bb = x.bb ∧ Off.lit 0 = Off.lit 0) ∧ 
 (shrI IntKind.u64 (x2.2 : Int) (8 : Int) = (x5.2 : Int)) ∧ 
 (IntKind.wrap IntKind.u64 ((↑(Int.toNat (x.num : Int) - (8 : Nat) * x2.1) : Int) - (8 : Int)) = (↑(Int.toNat (x.num : Int) - (8 : Nat) * x5.1) : Int)) ∧ 
 (x.big = x.big) ∧ (x.pk = x.pk ∧ x.pkn = x.pkn) ∧ 
 (x.dis = x.dis) ∧ ((↑(Int.toNat (x.fed : Int)) : Int) = (↑(Int.toNat (x.fed : Int)) : Int)) ∧ (Value.pointer none = Value.pointer none) ∧ (x.bb = x.bb ∧ Off.lit 0 = Off.lit 0) ∧ 
 (Value.pointer none = Value.pointer none) ∧ (x.sb = x.sb) ∧ (x.vs = x.vs ∧ ints x.bs = ints x.bs) ∧ 
 ((x.off : Int) = (x.off : Int)) ∧ (x.prev = x.prev) ∧ (x.bb = x.bb) ∧ (x.sb = x.sb ∧ Off.lit 0 = Off.lit 0) ∧ 
 ((x.pos : Int) = (x.pos : Int)) ∧ (x.bv = x.bv ∧ x.bn = x.bn) ∧ 
 ((512 : Nat) = (512 : Nat) ∧ x.arr = x.arr) ∧ 
 (BF.ox b = BF.ox b ∧ List.set (putAt (BF.l b) (BF.lo b) (List.take x2.1 (List.drop (RS.P x / (8 : Nat)) x.bs))) (BF.lo b + Int.toNat (x2.1 : Int)) (↑(numL (byteBits true (Int.toNat (IntKind.wrap IntKind.u8 (x2.2 : Int))))) : Int) = putAt (BF.l b) (BF.lo b) (List.take x5.1 (List.drop (RS.P x / (8 : Nat)) x.bs))) ∧ 
 (True)))
 ((x.rb = x.rb) ∧ 
 (BF.ox b = BF.ox b) ∧ 
 (inRange (x2.1 : Int) (BF.hi b - BF.lo b) ∧ BF.hi b ≤ List.length (putAt (BF.l b) (BF.lo b) (List.take x2.1 (List.drop (RS.P x / (8 : Nat)) x.bs)))) ∧ 
 (BF.ox b = BF.ox b ∧ BF.lo b + Int.toNat (x2.1 : Int) < List.length (putAt (BF.l b) (BF.lo b) (List.take x2.1 (List.drop (RS.P x / (8 : Nat)) x.bs)))) ∧ 
 (x.rb = x.rb) ∧ 
 ((0 : Int) ≤ (8 : Int)) ∧ 
 (x.rb = x.rb) ∧ 
 (x.rb = x.rb) ∧ 
 (x.rb = x.rb) ∧ 
 (inI64 ((x2.1 : Int) + (1 : Int))) ∧ 
 ∃ x3 : (Nat × Nat), ((x3.1 ≤ BF.hi b - BF.lo b ∧ (8 : Nat) * x3.1 ≤ Int.toNat (x.num : Int) ∧ bkOK (RS.W x / (2 : Nat) ^ ((8 : Nat) * x3.1)) x3.2 (Int.toNat (x.num : Int) - (8 : Nat) * x3.1)) ∧ BF.hi b - BF.lo b - x3.1 < BF.hi b - BF.lo b - x2.1) ∧ 
 ((x2.1 : Int) + (1 : Int) = (x3.1 : Int)) ∧ 
 (x.m = x.m) ∧ (relLe x.rel x.rel) ∧ 
 (x.rb = x.rb) ∧ ((↑(Int.toNat (x.off : Int)) : Int) = (↑(Int.toNat (x.off : Int)) : Int)) ∧ (x.sb = x.sb ∧ Off.lit 0 = Off.lit 0) ∧ 
 (Value.nilIface = Value.nilIface) ∧ (x.bb = x.bb ∧ Off.lit 0 = Off.lit 0) ∧ 
 (shrI IntKind.u64 (x2.2 : Int) (8 : Int) = (x3.2 : Int)) ∧ 
 (IntKind.wrap IntKind.u64 ((↑(Int.toNat (x.num : Int) - (8 : Nat) * x2.1) : Int) - (8 : Int)) = (↑(Int.toNat (x.num : Int) - (8 : Nat) * x3.1) : Int)) ∧ 
 (x.big = x.big) ∧ (x.pk = x.pk ∧ x.pkn = x.pkn) ∧ 
 (x.dis = x.dis) ∧ ((↑(Int.toNat (x.fed : Int)) : Int) = (↑(Int.toNat (x.fed : Int)) : Int)) ∧ (Value.pointer none = Value.pointer none) ∧ (x.bb = x.bb ∧ Off.lit 0 = Off.lit 0) ∧ 
 (Value.pointer none = Value.pointer none) ∧ (x.sb = x.sb) ∧ (x.vs = x.vs ∧ ints x.bs = ints x.bs) ∧ 
 ((x.off : Int) = (x.off : Int)) ∧ (x.prev = x.prev) ∧ (x.bb = x.bb) ∧ (x.sb = x.sb ∧ Off.lit 0 = Off.lit 0) ∧ 
 ((x.pos : Int) = (x.pos : Int)) ∧ (x.bv = x.bv ∧ x.bn = x.bn) ∧ 
 ((512 : Nat) = (512 : Nat) ∧ x.arr = x.arr) ∧ 
 (BF.ox b = BF.ox b ∧ List.set (putAt (BF.l b) (BF.lo b) (List.take x2.1 (List.drop (RS.P x / (8 : Nat)) x.bs))) (BF.lo b + Int.toNat (x2.1 : Int)) (IntKind.wrap IntKind.u8 (x2.2 : Int)) = putAt (BF.l b) (BF.lo b) (List.take x3.1 (List.drop (RS.P x / (8 : Nat)) x.bs))) ∧ 
 (True)))
 (((∃ x3 : (RV × Nat), (read230 x b x3.1 x3.2) ∧ 
 ((x2.1 : Int) = (x3.2 : Int)) ∧ 
 (Value.nilIface = Value.nilIface) ∧ (x.m = x.m) ∧ 
 (relLe x.rel x.rel) ∧ 
 (x.rb = x.rb) ∧ 
 ((↑(Int.toNat (x.off : Int)) : Int) = (x3.1.off : Int)) ∧ 
 (x.sb = x.sb ∧ Off.lit 0 = Off.lit 0) ∧ 
 (Value.nilIface = Value.nilIface) ∧ (x.bb = x.bb ∧ Off.lit 0 = Off.lit 0) ∧ 
 ((x2.2 : Int) = (x3.1.bits : Int)) ∧ 
 ((↑(Int.toNat (x.num : Int) - (8 : Nat) * x2.1) : Int) = (x3.1.num : Int)) ∧ 
 (x.big = x.big) ∧ 
 (x.pk = x3.1.pk ∧ x.pkn = x3.1.pkn) ∧ 
 (x.dis = x3.1.dis) ∧ 
 ((↑(Int.toNat (x.fed : Int)) : Int) = (x3.1.fed : Int)) ∧ 
 (Value.pointer none = Value.pointer none) ∧ (x.bb = x.bb ∧ Off.lit 0 = Off.lit 0) ∧ 
 (Value.pointer none = Value.pointer none) ∧ (x.sb = x.sb) ∧ 
 (x.vs = x.vs ∧ ints x.bs = ints x.bs) ∧ 
 ((x.off : Int) = (x3.1.off : Int)) ∧ 
 (x.prev = x3.1.prev) ∧ 
 (x.bb = x.bb) ∧ 
 (x.sb = x.sb ∧ Off.lit 0 = Off.lit 0) ∧ 
 ((x.pos : Int) = (x3.1.pos : Int)) ∧ 
 (x.bv = x3.1.bv ∧ x.bn = x3.1.bn) ∧ 
 ((512 : Nat) = (512 : Nat) ∧ x.arr = x3.1.arr) ∧ 
 (BF.ox b = BF.ox b ∧ putAt (BF.l b) (BF.lo b) (List.take x2.1 (List.drop (RS.P x / (8 : Nat)) x.bs)) = putAt (BF.l b) (BF.lo b) (List.take x3.2 (List.drop (RS.P x / (8 : Nat)) x.bs))) ∧ 
 (True)) ∨
 (∃ x3 : (RV), (eof230 x x3) ∧ 
 ((x2.1 : Int) = (0 : Int)) ∧ 
 (Value.nilIface = errV (Gl.E G)) ∧ 
 (x.m = x.m) ∧ 
 (relLe x.rel x.rel) ∧ 
 (x.rb = x.rb) ∧ 
 ((↑(Int.toNat (x.off : Int)) : Int) = (x3.off : Int)) ∧ 
 (x.sb = x.sb ∧ Off.lit 0 = Off.lit 0) ∧ 
 (Value.nilIface = Value.nilIface) ∧ (x.bb = x.bb ∧ Off.lit 0 = Off.lit 0) ∧ 
 ((x2.2 : Int) = (x3.bits : Int)) ∧ 
 ((↑(Int.toNat (x.num : Int) - (8 : Nat) * x2.1) : Int) = (x3.num : Int)) ∧ 
 (x.big = x.big) ∧ 
 (x.pk = x3.pk ∧ x.pkn = x3.pkn) ∧ 
 (x.dis = x3.dis) ∧ 
 ((↑(Int.toNat (x.fed : Int)) : Int) = (x3.fed : Int)) ∧ 
 (Value.pointer none = Value.pointer none) ∧ (x.bb = x.bb ∧ Off.lit 0 = Off.lit 0) ∧ 
 (Value.pointer none = Value.pointer none) ∧ (x.sb = x.sb) ∧ 
 (x.vs = x.vs ∧ ints x.bs = ints x.bs) ∧ 
 ((x.off : Int) = (x3.off : Int)) ∧ 
 (x.prev = x3.prev) ∧ 
 (x.bb = x.bb) ∧ 
 (x.sb = x.sb ∧ Off.lit 0 = Off.lit 0) ∧ 
 ((x.pos : Int) = (x3.pos : Int)) ∧ 
 (x.bv = x3.bv ∧ x.bn = x3.bn) ∧ 
 ((512 : Nat) = (512 : Nat) ∧ x.arr = x3.arr) ∧ 
 (BF.ox b = BF.ox b ∧ putAt (BF.l b) (BF.lo b) (List.take x2.1 (List.drop (RS.P x / (8 : Nat)) x.bs)) = BF.l b) ∧ 
 (True)))))
 (((∃ x3 : (RV × Nat), (read230 x b x3.1 x3.2) ∧ 
 ((x2.1 : Int) = (x3.2 : Int)) ∧ 
 (Value.nilIface = Value.nilIface) ∧ (x.m = x.m) ∧ 
 (relLe x.rel x.rel) ∧ 
 (x.rb = x.rb) ∧ 
 ((↑(Int.toNat (x.off : Int)) : Int) = (x3.1.off : Int)) ∧ 
 (x.sb = x.sb ∧ Off.lit 0 = Off.lit 0) ∧ 
 (Value.nilIface = Value.nilIface) ∧ (x.bb = x.bb ∧ Off.lit 0 = Off.lit 0) ∧ 
 ((x2.2 : Int) = (x3.1.bits : Int)) ∧ 
 ((↑(Int.toNat (x.num : Int) - (8 : Nat) * x2.1) : Int) = (x3.1.num : Int)) ∧ 
 (x.big = x.big) ∧ 
 (x.pk = x3.1.pk ∧ x.pkn = x3.1.pkn) ∧ 
 (x.dis = x3.1.dis) ∧ 
 ((↑(Int.toNat (x.fed : Int)) : Int) = (x3.1.fed : Int)) ∧ 
 (Value.pointer none = Value.pointer none) ∧ (x.bb = x.bb ∧ Off.lit 0 = Off.lit 0) ∧ 
 (Value.pointer none = Value.pointer none) ∧ (x.sb = x.sb) ∧ 
 (x.vs = x.vs ∧ ints x.bs = ints x.bs) ∧ 
 ((x.off : Int) = (x3.1.off : Int)) ∧ 
 (x.prev = x3.1.prev) ∧ 
 (x.bb = x.bb) ∧ 
 (x.sb = x.sb ∧ Off.lit 0 = Off.lit 0) ∧ 
 ((x.pos : Int) = (x3.1.pos : Int)) ∧ 
 (x.bv = x3.1.bv ∧ x.bn = x3.1.bn) ∧ 
 ((512 : Nat) = (512 : Nat) ∧ x.arr = x3.1.arr) ∧ 
 (BF.ox b = BF.ox b ∧ putAt (BF.l b) (BF.lo b) (List.take x2.1 (List.drop (RS.P x / (8 : Nat)) x.bs)) = putAt (BF.l b) (BF.lo b) (List.take x3.2 (List.drop (RS.P x / (8 : Nat)) x.bs))) ∧ 
 (True)) ∨
 (∃ x3 : (RV), (eof230 x x3) ∧ 
 ((x2.1 : Int) = (0 : Int)) ∧ 
 (Value.nilIface = errV (Gl.E G)) ∧ 
 (x.m = x.m) ∧ 
 (relLe x.rel x.rel) ∧ 
 (x.rb = x.rb) ∧ 
 ((↑(Int.toNat (x.off : Int)) : Int) = (x3.off : Int)) ∧ 
 (x.sb = x.sb ∧ Off.lit 0 = Off.lit 0) ∧ 
 (Value.nilIface = Value.nilIface) ∧ (x.bb = x.bb ∧ Off.lit 0 = Off.lit 0) ∧ 
 ((x2.2 : Int) = (x3.bits : Int)) ∧ 
 ((↑(Int.toNat (x.num : Int) - (8 : Nat) * x2.1) : Int) = (x3.num : Int)) ∧ 
 (x.big = x.big) ∧ 
 (x.pk = x3.pk ∧ x.pkn = x3.pkn) ∧ 
 (x.dis = x3.dis) ∧ 
 ((↑(Int.toNat (x.fed : Int)) : Int) = (x3.fed : Int)) ∧ 
 (Value.pointer none = Value.pointer none) ∧ (x.bb = x.bb ∧ Off.lit 0 = Off.lit 0) ∧ 
 (Value.pointer none = Value.pointer none) ∧ (x.sb = x.sb) ∧ 
 (x.vs = x.vs ∧ ints x.bs = ints x.bs) ∧ 
 ((x.off : Int) = (x3.off : Int)) ∧ 
 (x.prev = x3.prev) ∧ 
 (x.bb = x.bb) ∧ 
 (x.sb = x.sb ∧ Off.lit 0 = Off.lit 0) ∧ 
 ((x.pos : Int) = (x3.pos : Int)) ∧ 
 (x.bv = x3.bv ∧ x.bn = x3.bn) ∧ 
 ((512 : Nat) = (512 : Nat) ∧ x.arr = x3.arr) ∧ 
 (BF.ox b = BF.ox b ∧ putAt (BF.l b) (BF.lo b) (List.take x2.1 (List.drop (RS.P x / (8 : Nat)) x.bs)) = BF.l b) ∧ 
 (True)))))))
 (∃ x1 : (Nat), ∀ x2 : (Nat → Option Obj), (rsW (RS.mk x2 x.rel x.rb x.sb x.bb x.vs (nats (ints x.bs)) x.big x1 (Int.toNat (x.off : Int)) (Int.toNat (x.bits : Int)) (Int.toNat (x.num : Int)) x.pk x.pkn x.dis (Int.toNat (x.fed : Int)) (Int.toNat (x.pos : Int)) x.bv x.bn x.arr x.prev)) ∧ 
 (x.rb = x.rb ∧ Off.lit 0 = Off.lit 0) ∧ 
 (x2 = x2) ∧ 
 (relLe x.rel x.rel) ∧ 
 (x.rb = x.rb) ∧ 
 ((x.off : Int) = (↑(Int.toNat (x.off : Int)) : Int)) ∧ 
 (x.sb = x.sb ∧ Off.lit 0 = Off.lit 0) ∧ 
 (Value.nilIface = Value.nilIface) ∧ (x.bb = x.bb ∧ Off.lit 0 = Off.lit 0) ∧ 
 ((x.bits : Int) = (↑(Int.toNat (x.bits : Int)) : Int)) ∧ 
 ((x.num : Int) = (↑(Int.toNat (x.num : Int)) : Int)) ∧ 
 (x.big = x.big) ∧ 
 (x.pk = x.pk ∧ x.pkn = x.pkn) ∧ 
 (x.dis = x.dis) ∧ 
 ((x.fed : Int) = (↑(Int.toNat (x.fed : Int)) : Int)) ∧ 
 (Value.pointer none = Value.pointer none) ∧ (x.bb = x.bb ∧ Off.lit 0 = Off.lit 0) ∧ 
 (Value.pointer none = Value.pointer none) ∧ (x.sb = x.sb) ∧ 
 (x.vs = x.vs ∧ ints x.bs = ints (nats (ints x.bs))) ∧ 
 ((x.off : Int) = (↑(Int.toNat (x.off : Int)) : Int)) ∧ 
 (x.prev = x.prev) ∧ 
 (x.bb = x.bb) ∧ 
 (x.sb = x.sb ∧ Off.lit 0 = Off.lit 0) ∧ 
 ((x.pos : Int) = (↑(Int.toNat (x.pos : Int)) : Int)) ∧ 
 (x.bv = x.bv ∧ x.bn = x.bn) ∧ 
 ((512 : Nat) = (512 : Nat) ∧ x.arr = x.arr) ∧ 
 ∀ x3 : (Unit), ((True) → 
 (x2 = x2) ∧ 
 (x.rb = x.rb) ∧ 
 (x.sb = x.sb) ∧ (x.sb = x.sb) ∧ Br (decide ((↑((x1 + (7 : Nat)) / (8 : Nat)) : Int) ≥ (↑(List.length (ints (nats (ints x.bs)))) : Int)))
 ((x.rb = x.rb) ∧ 
 (inI64 ((↑((x1 + (7 : Nat)) / (8 : Nat)) : Int) + (0 : Int))) ∧ 
 (x.rb = x.rb) ∧ 
 ((∃ x4 : (RV × Nat), (read230 x b x4.1 x4.2) ∧ 
 ((0 : Int) = (x4.2 : Int)) ∧ 
 (errV (Gl.E G) = Value.nilIface) ∧ 
 (x.m = x.m) ∧ 
 (relLe x.rel x.rel) ∧ 
 (x.rb = x.rb) ∧ 
 ((↑((x1 + (7 : Nat)) / (8 : Nat)) : Int) + (0 : Int) = (x4.1.off : Int)) ∧ 
 (x.sb = x.sb ∧ Off.lit 0 = Off.lit 0) ∧ 
 (Value.nilIface = Value.nilIface) ∧ (x.bb = x.bb ∧ Off.lit 0 = Off.lit 0) ∧ 
 ((↑(Int.toNat (x.bits : Int)) : Int) = (x4.1.bits : Int)) ∧ 
 ((↑(Int.toNat (x.num : Int)) : Int) = (x4.1.num : Int)) ∧ 
 (x.big = x.big) ∧ 
 (Value.slice none 0 0 = x4.1.pk ∧ (0 : Nat) = x4.1.pkn) ∧ 
 ((x1 : Int) - (8 : Int) * (↑((x1 + (7 : Nat)) / (8 : Nat)) : Int) = x4.1.dis) ∧ 
 ((↑(Int.toNat (x.num : Int)) : Int) = (x4.1.fed : Int)) ∧ 
 (Value.pointer none = Value.pointer none) ∧ (x.bb = x.bb ∧ Off.lit 0 = Off.lit 0) ∧ 
 (Value.pointer none = Value.pointer none) ∧ (x.sb = x.sb) ∧ 
 (x.vs = x.vs ∧ ints (nats (ints x.bs)) = ints x.bs) ∧ 
 ((↑((x1 + (7 : Nat)) / (8 : Nat)) : Int) = (x4.1.off : Int)) ∧ 
 ((-1 : Int) = x4.1.prev) ∧ 
 (x.bb = x.bb) ∧ 
 (x.sb = x.sb ∧ Off.lit 0 = Off.lit 0) ∧ 
 ((↑(Int.toNat (x.pos : Int)) : Int) = (x4.1.pos : Int)) ∧ 
 (x.bv = x4.1.bv ∧ x.bn = x4.1.bn) ∧ 
 ((512 : Nat) = (512 : Nat) ∧ x.arr = x4.1.arr) ∧ 
 (BF.ox b = BF.ox b ∧ BF.l b = putAt (BF.l b) (BF.lo b) (List.take x4.2 (List.drop (RS.P x / (8 : Nat)) x.bs))) ∧ 
 (True)) ∨
 (∃ x4 : (RV), (eof230 x x4) ∧ 
 ((0 : Int) = (0 : Int)) ∧ 
 (errV (Gl.E G) = errV (Gl.E G)) ∧ (x.m = x.m) ∧ 
 (relLe x.rel x.rel) ∧ 
 (x.rb = x.rb) ∧ 
 ((↑((x1 + (7 : Nat)) / (8 : Nat)) : Int) + (0 : Int) = (x4.off : Int)) ∧ 
 (x.sb = x.sb ∧ Off.lit 0 = Off.lit 0) ∧ 
 (Value.nilIface = Value.nilIface) ∧ (x.bb = x.bb ∧ Off.lit 0 = Off.lit 0) ∧ 
 ((↑(Int.toNat (x.bits : Int)) : Int) = (x4.bits : Int)) ∧ 
 ((↑(Int.toNat (x.num : Int)) : Int) = (x4.num : Int)) ∧ 
 (x.big = x.big) ∧ 
 (Value.slice none 0 0 = x4.pk ∧ (0 : Nat) = x4.pkn) ∧ 
 ((x1 : Int) - (8 : Int) * (↑((x1 + (7 : Nat)) / (8 : Nat)) : Int) = x4.dis) ∧ 
 ((↑(Int.toNat (x.num : Int)) : Int) = (x4.fed : Int)) ∧ 
 (Value.pointer none = Value.pointer none) ∧ (x.bb = x.bb ∧ Off.lit 0 = Off.lit 0) ∧ 
 (Value.pointer none = Value.pointer none) ∧ (x.sb = x.sb) ∧ 
 (x.vs = x.vs ∧ ints (nats (ints x.bs)) = ints x.bs) ∧ 
 ((↑((x1 + (7 : Nat)) / (8 : Nat)) : Int) = (x4.off : Int)) ∧ 
 ((-1 : Int) = x4.prev) ∧ 
 (x.bb = x.bb) ∧ 
 (x.sb = x.sb ∧ Off.lit 0 = Off.lit 0) ∧ 
 ((↑(Int.toNat (x.pos : Int)) : Int) = (x4.pos : Int)) ∧ 
 (x.bv = x4.bv ∧ x.bn = x4.bn) ∧ 
 ((512 : Nat) = (512 : Nat) ∧ x.arr = x4.arr) ∧ 
 (BF.ox b = BF.ox b ∧ BF.l b = BF.l b) ∧ 
 (True))))
 ((x.sb = x.sb) ∧ (x.sb = x.sb) ∧ (x.sb = x.sb) ∧ ((0 : Int) ≤ (↑((x1 + (7 : Nat)) / (8 : Nat)) : Int) ∧ (↑((x1 + (7 : Nat)) / (8 : Nat)) : Int) ≤ (↑(List.length (ints (nats (ints x.bs)))) : Int) ∧ (↑(List.length (ints (nats (ints x.bs)))) : Int) ≤ (↑(List.length (ints (nats (ints x.bs)))) : Int)) ∧ 
 (BF.ox b = BF.ox b ∧ BF.lo b ≤ BF.hi b ∧ BF.hi b ≤ List.length (BF.l b)) ∧ 
 (x.sb = x.sb) ∧ (inI64 ((↑((x1 + (7 : Nat)) / (8 : Nat)) : Int) + (↑(min (List.length (List.drop (Int.toNat (↑((x1 + (7 : Nat)) / (8 : Nat)) : Int)) (List.take (Int.toNat (↑(List.length (ints (nats (ints x.bs)))) : Int)) (ints (nats (ints x.bs)))))) (BF.hi b - BF.lo b)) : Int))) ∧ 
 (x.sb = x.sb) ∧ (x.rb = x.rb) ∧ 
 (inI64 ((↑((x1 + (7 : Nat)) / (8 : Nat)) : Int) + (↑(min (List.length (List.drop (Int.toNat (↑((x1 + (7 : Nat)) / (8 : Nat)) : Int)) (List.take (Int.toNat (↑(List.length (ints (nats (ints x.bs)))) : Int)) (ints (nats (ints x.bs)))))) (BF.hi b - BF.lo b)) : Int))) ∧ 
 (x.rb = x.rb) ∧ 
 ((∃ x4 : (RV × Nat), (read230 x b x4.1 x4.2) ∧ 
 ((↑(min (List.length (List.drop (Int.toNat (↑((x1 + (7 : Nat)) / (8 : Nat)) : Int)) (List.take (Int.toNat (↑(List.length (ints (nats (ints x.bs)))) : Int)) (ints (nats (ints x.bs)))))) (BF.hi b - BF.lo b)) : Int) = (x4.2 : Int)) ∧ 
 (Value.nilIface = Value.nilIface) ∧ (x.m = x.m) ∧ 
 (relLe x.rel x.rel) ∧ 
 (x.rb = x.rb) ∧ 
 ((↑((x1 + (7 : Nat)) / (8 : Nat)) : Int) + (↑(min (List.length (List.drop (Int.toNat (↑((x1 + (7 : Nat)) / (8 : Nat)) : Int)) (List.take (Int.toNat (↑(List.length (ints (nats (ints x.bs)))) : Int)) (ints (nats (ints x.bs)))))) (BF.hi b - BF.lo b)) : Int) = (x4.1.off : Int)) ∧ 
 (x.sb = x.sb ∧ Off.lit 0 = Off.lit 0) ∧ 
 (Value.nilIface = Value.nilIface) ∧ (x.bb = x.bb ∧ Off.lit 0 = Off.lit 0) ∧ 
 ((↑(Int.toNat (x.bits : Int)) : Int) = (x4.1.bits : Int)) ∧ 
 ((↑(Int.toNat (x.num : Int)) : Int) = (x4.1.num : Int)) ∧ 
 (x.big = x.big) ∧ 
 (Value.slice none 0 0 = x4.1.pk ∧ (0 : Nat) = x4.1.pkn) ∧ 
 ((x1 : Int) - (8 : Int) * (↑((x1 + (7 : Nat)) / (8 : Nat)) : Int) = x4.1.dis) ∧ 
 ((↑(Int.toNat (x.num : Int)) : Int) = (x4.1.fed : Int)) ∧ 
 (Value.pointer none = Value.pointer none) ∧ (x.bb = x.bb ∧ Off.lit 0 = Off.lit 0) ∧ 
 (Value.pointer none = Value.pointer none) ∧ (x.sb = x.sb) ∧ 
 (x.vs = x.vs ∧ ints (nats (ints x.bs)) = ints x.bs) ∧ 
 ((↑((x1 + (7 : Nat)) / (8 : Nat)) : Int) + (↑(min (List.length (List.drop (Int.toNat (↑((x1 + (7 : Nat)) / (8 : Nat)) : Int)) (List.take (Int.toNat (↑(List.length (ints (nats (ints x.bs)))) : Int)) (ints (nats (ints x.bs)))))) (BF.hi b - BF.lo b)) : Int) = (x4.1.off : Int)) ∧ 
 ((-1 : Int) = x4.1.prev) ∧ 
 (x.bb = x.bb) ∧ 
 (x.sb = x.sb ∧ Off.lit 0 = Off.lit 0) ∧ 
 ((↑(Int.toNat (x.pos : Int)) : Int) = (x4.1.pos : Int)) ∧ 
 (x.bv = x4.1.bv ∧ x.bn = x4.1.bn) ∧ 
 ((512 : Nat) = (512 : Nat) ∧ x.arr = x4.1.arr) ∧ 
 (BF.ox b = BF.ox b ∧ List.take (BF.lo b) (BF.l b) ++ List.take (min (List.length (List.drop (Int.toNat (↑((x1 + (7 : Nat)) / (8 : Nat)) : Int)) (List.take (Int.toNat (↑(List.length (ints (nats (ints x.bs)))) : Int)) (ints (nats (ints x.bs)))))) (BF.hi b - BF.lo b)) (List.drop (Int.toNat (↑((x1 + (7 : Nat)) / (8 : Nat)) : Int)) (List.take (Int.toNat (↑(List.length (ints (nats (ints x.bs)))) : Int)) (ints (nats (ints x.bs))))) ++ List.drop (BF.lo b + min (List.length (List.drop (Int.toNat (↑((x1 + (7 : Nat)) / (8 : Nat)) : Int)) (List.take (Int.toNat (↑(List.length (ints (nats (ints x.bs)))) : Int)) (ints (nats (ints x.bs)))))) (BF.hi b - BF.lo b)) (BF.l b) = putAt (BF.l b) (BF.lo b) (List.take x4.2 (List.drop (RS.P x / (8 : Nat)) x.bs))) ∧ 
 (True)) ∨
 (∃ x4 : (RV), (eof230 x x4) ∧ 
 ((↑(min (List.length (List.drop (Int.toNat (↑((x1 + (7 : Nat)) / (8 : Nat)) : Int)) (List.take (Int.toNat (↑(List.length (ints (nats (ints x.bs)))) : Int)) (ints (nats (ints x.bs)))))) (BF.hi b - BF.lo b)) : Int) = (0 : Int)) ∧ 
 (Value.nilIface = errV (Gl.E G)) ∧ 
 (x.m = x.m) ∧ 
 (relLe x.rel x.rel) ∧ 
 (x.rb = x.rb) ∧ 
 ((↑((x1 + (7 : Nat)) / (8 : Nat)) : Int) + (↑(min (List.length (List.drop (Int.toNat (↑((x1 + (7 : Nat)) / (8 : Nat)) : Int)) (List.take (Int.toNat (↑(List.length (ints (nats (ints x.bs)))) : Int)) (ints (nats (ints x.bs)))))) (BF.hi b - BF.lo b)) : Int) = (x4.off : Int)) ∧ 
 (x.sb = x.sb ∧ Off.lit 0 = Off.lit 0) ∧ 
 (Value.nilIface = Value.nilIface) ∧ (x.bb = x.bb ∧ Off.lit 0 = Off.lit 0) ∧ 
 ((↑(Int.toNat (x.bits : Int)) : Int) = (x4.bits : Int)) ∧ 
 ((↑(Int.toNat (x.num : Int)) : Int) = (x4.num : Int)) ∧ 
 (x.big = x.big) ∧ 
 (Value.slice none 0 0 = x4.pk ∧ (0 : Nat) = x4.pkn) ∧ 
 ((x1 : Int) - (8 : Int) * (↑((x1 + (7 : Nat)) / (8 : Nat)) : Int) = x4.dis) ∧ 
 ((↑(Int.toNat (x.num : Int)) : Int) = (x4.fed : Int)) ∧ 
 (Value.pointer none = Value.pointer none) ∧ (x.bb = x.bb ∧ Off.lit 0 = Off.lit 0) ∧ 
 (Value.pointer none = Value.pointer none) ∧ (x.sb = x.sb) ∧ 
 (x.vs = x.vs ∧ ints (nats (ints x.bs)) = ints x.bs) ∧ 
 ((↑((x1 + (7 : Nat)) / (8 : Nat)) : Int) + (↑(min (List.length (List.drop (Int.toNat (↑((x1 + (7 : Nat)) / (8 : Nat)) : Int)) (List.take (Int.toNat (↑(List.length (ints (nats (ints x.bs)))) : Int)) (ints (nats (ints x.bs)))))) (BF.hi b - BF.lo b)) : Int) = (x4.off : Int)) ∧ 
 ((-1 : Int) = x4.prev) ∧ 
 (x.bb = x.bb) ∧ 
 (x.sb = x.sb ∧ Off.lit 0 = Off.lit 0) ∧ 
 ((↑(Int.toNat (x.pos : Int)) : Int) = (x4.pos : Int)) ∧ 
 (x.bv = x4.bv ∧ x.bn = x4.bn) ∧ 
 ((512 : Nat) = (512 : Nat) ∧ x.arr = x4.arr) ∧ 
 (BF.ox b = BF.ox b ∧ List.take (BF.lo b) (BF.l b) ++ List.take (min (List.length (List.drop (Int.toNat (↑((x1 + (7 : Nat)) / (8 : Nat)) : Int)) (List.take (Int.toNat (↑(List.length (ints (nats (ints x.bs)))) : Int)) (ints (nats (ints x.bs)))))) (BF.hi b - BF.lo b)) (List.drop (Int.toNat (↑((x1 + (7 : Nat)) / (8 : Nat)) : Int)) (List.take (Int.toNat (↑(List.length (ints (nats (ints x.bs)))) : Int)) (ints (nats (ints x.bs))))) ++ List.drop (BF.lo b + min (List.length (List.drop (Int.toNat (↑((x1 + (7 : Nat)) / (8 : Nat)) : Int)) (List.take (Int.toNat (↑(List.length (ints (nats (ints x.bs)))) : Int)) (ints (nats (ints x.bs)))))) (BF.hi b - BF.lo b)) (BF.l b) = BF.l b) ∧ 
 (True))))))
noncomputable def law_c230 (G : Gl) (P : Nat) (x : RS) (b : BF) : VCT := fnx (CH G 4) (INH G 4 b230 NA) (a230 x b) Tryz.f230 ((c230 G P).args (x, b)) ((c230 G P).H (x, b)) (outK true 6 ((c230 G P).ret (x, b))) ((c230 G P).pan (x, b))
theorem eq_c230 (G : Gl) (P : Nat) (x : RS) (b : BF) : cond_c230 G P x b = (law_c230 G P x b).den := by kernel_rfl
theorem ok_c230 (G : Gl) (P : Nat) (x : RS) (b : BF) (h : c230OK x b) : cond_c230 G P x b := by
  unfold cond_c230
  have e3 : ∀ l : List Nat, nats (ints l) = l := nats_ints
  have hw := h.w
  have h64 : x.num ≤ 64 := hw.n
  have al := hw.al
  have hP := h.al
  have hlen := hw.len
  have hend := hw.end_
  have hroom := h.room
  have t1 : Int.tmod (x.num : Int) 8 = ((x.num % 8 : Nat) : Int) := by rw [Int.tmod_eq_emod_of_nonneg (by omega)]; omega
  have t2 : x.num % 8 = 0 := by omega
  have e12 : ∀ q : Nat, List.drop q (List.take x.bs.length (ints x.bs)) = ints (x.bs.drop q) := fun q => by rw [← ints_drop x.bs q, ints_len]
  simp only [e3, t1, t2, e12, br_d, rel_self, true_and, and_true, inRange, inI64, Int.toNat_natCast, ints_len, List.length_drop]
  have fin : 0 < x.num → ∀ y : Nat × Nat, (y.1 ≤ b.hi - b.lo ∧ 8 * y.1 ≤ x.num ∧ bkOK (x.W / 2 ^ (8 * y.1)) y.2 (x.num - 8 * y.1)) → (b.lo < b.hi → 0 < y.1) → read230 x b ⟨x.off, y.2, x.num - 8 * y.1, x.pk, x.pkn, x.dis, x.fed, x.pos, x.bv, x.bn, x.arr, x.prev⟩ y.1 := fun h0 y hy hs => by
    have g : rsOK (x.adv ⟨x.off, y.2, x.num - 8 * y.1, x.pk, x.pkn, x.dis, x.fed, x.pos, x.bv, x.bn, x.arr, x.prev⟩ (8 * y.1)) := rs_takeB (v := ⟨x.off, x.bits, x.num, x.pk, x.pkn, x.dis, x.fed, x.pos, x.bv, x.bn, x.arr, x.prev⟩) (h.ok h0) hy.2.1 hy.2.2
    exact ⟨g.w, fun _ => g, by have := hy.2.1; omega, hy.1, hs⟩
  refine ⟨fun h0 => ⟨by decide, br_mk (fun hf => by simp at hf) (fun _ => ⟨(0, x.bits), ⟨Nat.zero_le _, Nat.zero_le _, ?_⟩, rfl, rfl, rfl, ?_, fun y hy => ⟨fun h1 => ⟨fun h2 => ?_, fun h2 => .inl ⟨(⟨x.off, y.2, x.num - 8 * y.1, x.pk, x.pkn, x.dis, x.fed, x.pos, x.bv, x.bn, x.arr, x.prev⟩, y.1), ?_, rfl, rfl, rfl, rfl, ⟨rfl, rfl⟩, rfl, rfl, rfl, rfl, rfl, ⟨rfl, rfl⟩, rfl, rfl⟩⟩, fun h1 => .inl ⟨(⟨x.off, y.2, x.num - 8 * y.1, x.pk, x.pkn, x.dis, x.fed, x.pos, x.bv, x.bn, x.arr, x.prev⟩, y.1), ?_, rfl, rfl, rfl, rfl, ⟨rfl, rfl⟩, rfl, rfl, rfl, rfl, rfl, ⟨rfl, rfl⟩, rfl, rfl⟩⟩⟩)⟩, fun h0 => ⟨x.P, fun m => ⟨?_, fun _ _ => ⟨fun h1 => ⟨by omega, .inr ⟨⟨(x.P + 7) / 8, x.bits, x.num, .slice none 0 0, 0, (x.P : Int) - 8 * ((x.P + 7) / 8 : Nat), x.num, x.pos, x.bv, x.bn, x.arr, -1⟩, ⟨?_, ?_, ?_⟩, ?_, rfl, rfl, ⟨rfl, rfl⟩, rfl, rfl, rfl, rfl, rfl, ⟨rfl, rfl⟩, rfl⟩⟩, fun h1 => ⟨by omega, hroom, by omega, by omega, .inl ⟨(⟨(x.P + 7) / 8 + min (x.bs.length - (x.P + 7) / 8) (b.hi - b.lo), x.bits, x.num, .slice none 0 0, 0, (x.P : Int) - 8 * ((x.P + 7) / 8 : Nat), x.num, x.pos, x.bv, x.bn, x.arr, -1⟩, min (x.bs.length - (x.P + 7) / 8) (b.hi - b.lo)), read_direct h (by omega) rfl (by omega) ?_, rfl, by dsimp only; omega, rfl, rfl, ⟨rfl, rfl⟩, rfl, rfl, by dsimp only; omega, rfl, rfl, ⟨rfl, rfl⟩, rfl, ?_⟩⟩⟩⟩⟩⟩
  · have := (h.ok (by omega)).l.bk
    simpa using this
  · rw [List.take_zero, putAt_nil]
  · have hy1 : y.1 ≤ b.hi - b.lo := hy.1
    have hy2 : 8 * y.1 ≤ x.num := hy.2.1
    have hy3 : bkOK (x.W / 2 ^ (8 * y.1)) y.2 (x.num - 8 * y.1) := hy.2.2
    obtain ⟨z, hz⟩ : ∃ z, (x.bs.drop (x.P / 8))[y.1]? = some z := ⟨_, List.getElem?_eq_getElem (by rw [List.length_drop]; omega)⟩
    have hzb : z < 256 := hw.bytes z (List.mem_of_mem_drop (List.mem_of_getElem? hz))
    have e1 := byte_at hP hy3 (by omega) hz
    have e2 := bk_step hy3 (by omega)
    have el : (putAt b.l b.lo (List.take y.1 (List.drop (x.P / 8) x.bs))).length = b.l.length := putAt_length (by rw [List.length_take]; omega)
    have e4 := wr8 y.2
    have e5 : shrI IntKind.u64 (y.2 : Int) 8 = ((y.2 / 2 ^ 8 : Nat) : Int) := shrN .u64 y.2 8
    have e6 : IntKind.u64.wrap (((x.num - 8 * y.1 : Nat) : Int) - 8) = ((x.num - 8 * (y.1 + 1) : Nat) : Int) := by
      rw [show ((x.num - 8 * y.1 : Nat) : Int) - 8 = ((x.num - 8 * (y.1 + 1) : Nat) : Int) by omega]
      exact wrId rfl (by simp only [IntKind.bits]; omega)
    rw [el, e4, e5, e6]
    refine br_mk (fun hb m3 => ⟨?_, ?_, fun _ _ => ⟨⟨by omega, by omega⟩, by omega, by omega, by omega, (y.1 + 1, y.2 / 2 ^ 8), ⟨⟨by dsimp only; omega, by dsimp only; omega, e2⟩, by dsimp only; omega⟩, rfl, rfl, rfl, ?_⟩⟩) (fun hb => ⟨⟨by omega, by omega⟩, by omega, by omega, by omega, (y.1 + 1, y.2 / 2 ^ 8), ⟨⟨by dsimp only; omega, by dsimp only; omega, e2⟩, by dsimp only; omega⟩, rfl, rfl, rfl, ?_⟩)
    · omega
    · omega
    · have e7 : ((y.2 : Int) % 256).toNat = y.2 % 256 := by omega
      rw [e7, e1, hb, byte_twice ⟨z, hzb⟩]
      exact putAt_set hz (by omega)
    · have e7 : (y.2 : Int) % 256 = ((y.2 % 256 : Nat) : Int) := by omega
      rw [e7, e1, hb, byte_num ⟨z, hzb⟩]
      exact putAt_set hz (by omega)
  · exact fin (by omega) y hy (fun h3 => by omega)
  · exact fin (by omega) y hy (fun h3 => by omega)
  · exact ⟨hw.bytes, hw.len, hw.n, hw.al, hw.end_, hw.off, hw.pos, hw.arr, hw.pk, hw.bv, hw.cov, hw.dis, hw.fed⟩
  · have := rs_read hw (by omega) hP (n := 0) (by omega) (dis := (x.P : Int) - 8 * ((x.P + 7) / 8 : Nat)) (by omega) (bits := x.bits) (prev := -1)
    exact this
  · omega
  · omega
  · dsimp only; omega
  · omega
  · rw [show (x.P + 7) / 8 = x.P / 8 by omega]
    have e8 : (List.take (min (x.bs.length - x.P / 8) (b.hi - b.lo)) (List.drop (x.P / 8) x.bs)).length = min (x.bs.length - x.P / 8) (b.hi - b.lo) := by rw [List.length_take, List.length_drop]; omega
    unfold putAt
    dsimp only
    rw [e8]
    simp only [ints, List.map_take]
theorem b230_ok (G : Gl) : ∀ f pt, b230 f = some pt → SpecOK (CC G) f pt := by
  intro f pt h
  unfold b230 at h
  split at h
  · cases h; exact exPT_ok 0 fun P => loc_ok (s80 G P) _
  · cases h; exact loc_ok (s164 G) _
  · cases h
theorem s230 (G : Gl) (P : Nat) : SpecOK (CC G) 230 (c230 G P).pt := specH G 4 (b230_ok G) (fn := Tryz.f230) rfl NA (c230 G P) (fun x => a230 x.1 x.2) fun ⟨x, b⟩ h => Met.of (eq_c230 G P x b) (ok_c230 G P x b h)
end Pc
/-
  ReadAtLeast does what its contract says.
-/
set_option linter.unusedVariables false
set_option maxRecDepth 100000
open Go Go.Vg Go.Proofs
namespace Pc
def cond_c145 (G : Gl) (P : Nat) (x : RS) (bx : Value) (l : List Int) : Prop :=
 Br (decide ((↑(List.length l) : Int) < (↑(List.length l) : Int)))
 (((∃ x1 : (RV), (full145 x (List.length l) x1) ∧ 
 ((0 : Int) = (↑(List.length l) : Int)) ∧ 
 (errV (Gl.S G) = Value.nilIface) ∧ 
 (x.m = x.m) ∧ 
 (relLe x.rel x.rel) ∧ 
 (x.rb = x.rb) ∧ 
 ((x.off : Int) = (x1.off : Int)) ∧ 
 (x.sb = x.sb ∧ Off.lit 0 = Off.lit 0) ∧ 
 (Value.nilIface = Value.nilIface) ∧ (x.bb = x.bb ∧ Off.lit 0 = Off.lit 0) ∧ 
 ((x.bits : Int) = (x1.bits : Int)) ∧ 
 ((x.num : Int) = (x1.num : Int)) ∧ 
 (x.big = x.big) ∧ 
 (x.pk = x1.pk ∧ x.pkn = x1.pkn) ∧ 
 (x.dis = x1.dis) ∧ 
 ((x.fed : Int) = (x1.fed : Int)) ∧ 
 (Value.pointer none = Value.pointer none) ∧ (x.bb = x.bb ∧ Off.lit 0 = Off.lit 0) ∧ 
 (Value.pointer none = Value.pointer none) ∧ (x.sb = x.sb) ∧ 
 (x.vs = x.vs ∧ ints x.bs = ints x.bs) ∧ 
 ((x.off : Int) = (x1.off : Int)) ∧ 
 (x.prev = x1.prev) ∧ 
 (x.bb = x.bb) ∧ 
 (x.sb = x.sb ∧ Off.lit 0 = Off.lit 0) ∧ 
 ((x.pos : Int) = (x1.pos : Int)) ∧ 
 (x.bv = x1.bv ∧ x.bn = x1.bn) ∧ 
 ((512 : Nat) = (512 : Nat) ∧ x.arr = x1.arr) ∧ 
 (bx = bx ∧ l = ints (List.take (List.length l) (List.drop (RS.P x / (8 : Nat)) x.bs))) ∧ 
 (True)) ∨
 (∃ x1 : (RV × Nat × Addr × List Int), (ends145 x l x1.1 (x1.2.1) (Prod.snd (x1.2.2))) ∧ 
 ((0 : Int) = (↑(x1.2.1) : Int)) ∧ 
 (errV (Gl.S G) = errV (Prod.fst (x1.2.2))) ∧ 
 (x.m = x.m) ∧ 
 (relLe x.rel x.rel) ∧ 
 (x.rb = x.rb) ∧ 
 ((x.off : Int) = (x1.1.off : Int)) ∧ 
 (x.sb = x.sb ∧ Off.lit 0 = Off.lit 0) ∧ 
 (Value.nilIface = Value.nilIface) ∧ (x.bb = x.bb ∧ Off.lit 0 = Off.lit 0) ∧ 
 ((x.bits : Int) = (x1.1.bits : Int)) ∧ 
 ((x.num : Int) = (x1.1.num : Int)) ∧ 
 (x.big = x.big) ∧ 
 (x.pk = x1.1.pk ∧ x.pkn = x1.1.pkn) ∧ 
 (x.dis = x1.1.dis) ∧ 
 ((x.fed : Int) = (x1.1.fed : Int)) ∧ 
 (Value.pointer none = Value.pointer none) ∧ (x.bb = x.bb ∧ Off.lit 0 = Off.lit 0) ∧ 
 (Value.pointer none = Value.pointer none) ∧ (x.sb = x.sb) ∧ 
 (x.vs = x.vs ∧ ints x.bs = ints x.bs) ∧ 
 ((x.off : Int) = (x1.1.off : Int)) ∧ 
 (x.prev = x1.1.prev) ∧ 
 (x.bb = x.bb) ∧ 
 (x.sb = x.sb ∧ Off.lit 0 = Off.lit 0) ∧ 
 ((x.pos : Int) = (x1.1.pos : Int)) ∧ 
 (x.bv = x1.1.bv ∧ x.bn = x1.1.bn) ∧ 
 ((512 : Nat) = (512 : Nat) ∧ x.arr = x1.1.arr) ∧ 
 (bx = bx ∧ l = Prod.snd (x1.2.2)) ∧ 
 (True))))
 (∃ x1 : (RV × Nat), (at145 x l x1.1 x1.2) ∧ 
 ((0 : Int) = (x1.2 : Int)) ∧ 
 (Value.nilIface = Value.nilIface) ∧ (x.m = x.m) ∧ (relLe x.rel x.rel) ∧ 
 (x.rb = x.rb) ∧ 
 ((x.off : Int) = (x1.1.off : Int)) ∧ 
 (x.sb = x.sb ∧ Off.lit 0 = Off.lit 0) ∧ 
 (Value.nilIface = Value.nilIface) ∧ (x.bb = x.bb ∧ Off.lit 0 = Off.lit 0) ∧ 
 ((x.bits : Int) = (x1.1.bits : Int)) ∧ 
 ((x.num : Int) = (x1.1.num : Int)) ∧ 
 (x.big = x.big) ∧ 
 (x.pk = x1.1.pk ∧ x.pkn = x1.1.pkn) ∧ 
 (x.dis = x1.1.dis) ∧ 
 ((x.fed : Int) = (x1.1.fed : Int)) ∧ 
 (Value.pointer none = Value.pointer none) ∧ (x.bb = x.bb ∧ Off.lit 0 = Off.lit 0) ∧ 
 (Value.pointer none = Value.pointer none) ∧ (x.sb = x.sb) ∧ 
 (x.vs = x.vs ∧ ints x.bs = ints x.bs) ∧ 
 ((x.off : Int) = (x1.1.off : Int)) ∧ 
 (x.prev = x1.1.prev) ∧ 
 (x.bb = x.bb) ∧ 
 (x.sb = x.sb ∧ Off.lit 0 = Off.lit 0) ∧ 
 ((x.pos : Int) = (x1.1.pos : Int)) ∧ 
 (x.bv = x1.1.bv ∧ x.bn = x1.1.bn) ∧ 
 ((512 : Nat) = (512 : Nat) ∧ x.arr = x1.1.arr) ∧ 
 (bx = bx ∧ l = putAt l 0 (List.take x1.2 (List.drop (RS.P x / (8 : Nat)) x.bs))) ∧ 
 ∀ x2 : (RV × Nat), ((at145 x l x2.1 x2.2) → 
 Br (decide ((x2.2 : Int) < (↑(List.length l) : Int)))
 ((bx = bx) ∧ 
 (List.length l = List.length (putAt l 0 (List.take x2.2 (List.drop (RS.P x / (8 : Nat)) x.bs))) ∧ (0 : Int) ≤ (x2.2 : Int) ∧ (x2.2 : Int) ≤ (↑(List.length l) : Int) ∧ (↑(List.length l) : Int) ≤ (↑(List.length l) : Int)) ∧ 
 ∃ x3 : (Nat), ∀ x4 : (Nat → Option Obj), (c230OK (RS.mk x4 x.rel x.rb x.sb x.bb x.vs (nats (ints x.bs)) x.big x3 (Int.toNat (x2.1.off : Int)) (Int.toNat (x2.1.bits : Int)) (Int.toNat (x2.1.num : Int)) x2.1.pk x2.1.pkn x2.1.dis (Int.toNat (x2.1.fed : Int)) (Int.toNat (x2.1.pos : Int)) x2.1.bv x2.1.bn x2.1.arr x2.1.prev) (BF.mk bx (putAt l 0 (List.take x2.2 (List.drop (RS.P x / (8 : Nat)) x.bs))) (Int.toNat (x2.2 : Int)) (Int.toNat (↑(List.length l) : Int)) (sliceVal bx (Int.toNat (x2.2 : Int)) (Int.toNat (↑(List.length l) : Int)) 1))) ∧ 
 (x.rb = x.rb ∧ Off.lit 0 = Off.lit 0) ∧ 
 (bx = bx ∧ Int.toNat (x2.2 : Int) = Int.toNat (x2.2 : Int) ∧ Int.toNat (↑(List.length l) : Int) = Int.toNat (↑(List.length l) : Int) ∧ sliceVal bx (Int.toNat (x2.2 : Int)) (Int.toNat (↑(List.length l) : Int)) 1 = sliceVal bx (Int.toNat (x2.2 : Int)) (Int.toNat (↑(List.length l) : Int)) 1) ∧ 
 (x4 = x4) ∧ 
 (relLe x.rel x.rel) ∧ 
 (x.rb = x.rb) ∧ 
 ((x2.1.off : Int) = (↑(Int.toNat (x2.1.off : Int)) : Int)) ∧ 
 (x.sb = x.sb ∧ Off.lit 0 = Off.lit 0) ∧ 
 (Value.nilIface = Value.nilIface) ∧ (x.bb = x.bb ∧ Off.lit 0 = Off.lit 0) ∧ 
 ((x2.1.bits : Int) = (↑(Int.toNat (x2.1.bits : Int)) : Int)) ∧ 
 ((x2.1.num : Int) = (↑(Int.toNat (x2.1.num : Int)) : Int)) ∧ 
 (x.big = x.big) ∧ 
 (x2.1.pk = x2.1.pk ∧ x2.1.pkn = x2.1.pkn) ∧ 
 (x2.1.dis = x2.1.dis) ∧ 
 ((x2.1.fed : Int) = (↑(Int.toNat (x2.1.fed : Int)) : Int)) ∧ 
 (Value.pointer none = Value.pointer none) ∧ (x.bb = x.bb ∧ Off.lit 0 = Off.lit 0) ∧ 
 (Value.pointer none = Value.pointer none) ∧ (x.sb = x.sb) ∧ 
 (x.vs = x.vs ∧ ints x.bs = ints (nats (ints x.bs))) ∧ 
 ((x2.1.off : Int) = (↑(Int.toNat (x2.1.off : Int)) : Int)) ∧ 
 (x2.1.prev = x2.1.prev) ∧ 
 (x.bb = x.bb) ∧ 
 (x.sb = x.sb ∧ Off.lit 0 = Off.lit 0) ∧ 
 ((x2.1.pos : Int) = (↑(Int.toNat (x2.1.pos : Int)) : Int)) ∧ 
 (x2.1.bv = x2.1.bv ∧ x2.1.bn = x2.1.bn) ∧ 
 ((512 : Nat) = (512 : Nat) ∧ x2.1.arr = x2.1.arr) ∧ 
 (bx = bx ∧ putAt l 0 (List.take x2.2 (List.drop (RS.P x / (8 : Nat)) x.bs)) = putAt l 0 (List.take x2.2 (List.drop (RS.P x / (8 : Nat)) x.bs))) ∧ 
 (∀ x5 : (RV × Nat), ((read230 (RS.mk x4 x.rel x.rb x.sb x.bb x.vs (nats (ints x.bs)) x.big x3 (Int.toNat (x2.1.off : Int)) (Int.toNat (x2.1.bits : Int)) (Int.toNat (x2.1.num : Int)) x2.1.pk x2.1.pkn x2.1.dis (Int.toNat (x2.1.fed : Int)) (Int.toNat (x2.1.pos : Int)) x2.1.bv x2.1.bn x2.1.arr x2.1.prev) (BF.mk bx (putAt l 0 (List.take x2.2 (List.drop (RS.P x / (8 : Nat)) x.bs))) (Int.toNat (x2.2 : Int)) (Int.toNat (↑(List.length l) : Int)) (sliceVal bx (Int.toNat (x2.2 : Int)) (Int.toNat (↑(List.length l) : Int)) 1)) x5.1 x5.2) → 
 (x4 = x4) ∧ 
 (inI64 ((x2.2 : Int) + (x5.2 : Int))) ∧ 
 ∃ x6 : (RV × Nat), (at145 x l x6.1 x6.2 ∧ List.length l - x6.2 < List.length l - x2.2) ∧ 
 ((x2.2 : Int) + (x5.2 : Int) = (x6.2 : Int)) ∧ 
 (Value.nilIface = Value.nilIface) ∧ (x.m = x.m) ∧ (relLe x.rel x.rel) ∧ 
 (x.rb = x.rb) ∧ 
 ((x5.1.off : Int) = (x6.1.off : Int)) ∧ 
 (x.sb = x.sb ∧ Off.lit 0 = Off.lit 0) ∧ 
 (Value.nilIface = Value.nilIface) ∧ (x.bb = x.bb ∧ Off.lit 0 = Off.lit 0) ∧ 
 ((x5.1.bits : Int) = (x6.1.bits : Int)) ∧ 
 ((x5.1.num : Int) = (x6.1.num : Int)) ∧ 
 (x.big = x.big) ∧ 
 (x5.1.pk = x6.1.pk ∧ x5.1.pkn = x6.1.pkn) ∧ 
 (x5.1.dis = x6.1.dis) ∧ 
 ((x5.1.fed : Int) = (x6.1.fed : Int)) ∧ 
 (Value.pointer none = Value.pointer none) ∧ (x.bb = x.bb ∧ Off.lit 0 = Off.lit 0) ∧ 
 (Value.pointer none = Value.pointer none) ∧ (x.sb = x.sb) ∧ 
 (x.vs = x.vs ∧ ints (nats (ints x.bs)) = ints x.bs) ∧ 
 ((x5.1.off : Int) = (x6.1.off : Int)) ∧ 
 (x5.1.prev = x6.1.prev) ∧ 
 (x.bb = x.bb) ∧ 
 (x.sb = x.sb ∧ Off.lit 0 = Off.lit 0) ∧ 
 ((x5.1.pos : Int) = (x6.1.pos : Int)) ∧ 
 (x5.1.bv = x6.1.bv ∧ x5.1.bn = x6.1.bn) ∧ 
 ((512 : Nat) = (512 : Nat) ∧ x5.1.arr = x6.1.arr) ∧ 
 (bx = bx ∧ putAt (putAt l 0 (List.take x2.2 (List.drop (RS.P x / (8 : Nat)) x.bs))) (Int.toNat (x2.2 : Int)) (List.take x5.2 (List.drop (x3 / (8 : Nat)) (nats (ints x.bs)))) = putAt l 0 (List.take x6.2 (List.drop (RS.P x / (8 : Nat)) x.bs))) ∧ 
 (True))) ∧
 (∀ x5 : (RV), ((eof230 (RS.mk x4 x.rel x.rb x.sb x.bb x.vs (nats (ints x.bs)) x.big x3 (Int.toNat (x2.1.off : Int)) (Int.toNat (x2.1.bits : Int)) (Int.toNat (x2.1.num : Int)) x2.1.pk x2.1.pkn x2.1.dis (Int.toNat (x2.1.fed : Int)) (Int.toNat (x2.1.pos : Int)) x2.1.bv x2.1.bn x2.1.arr x2.1.prev) x5) → 
 (x4 = x4) ∧ 
 (inI64 ((x2.2 : Int) + (0 : Int))) ∧ 
 Br (decide ((x2.2 : Int) + (0 : Int) < (↑(List.length l) : Int)))
 (Br (decide ((x2.2 : Int) + (0 : Int) ≥ (↑(List.length l) : Int)))
 (((∃ x6 : (RV), (full145 x (List.length l) x6) ∧ 
 ((x2.2 : Int) + (0 : Int) = (↑(List.length l) : Int)) ∧ 
 (Value.nilIface = Value.nilIface) ∧ (x.m = x.m) ∧ 
 (relLe x.rel x.rel) ∧ 
 (x.rb = x.rb) ∧ 
 ((x5.off : Int) = (x6.off : Int)) ∧ 
 (x.sb = x.sb ∧ Off.lit 0 = Off.lit 0) ∧ 
 (Value.nilIface = Value.nilIface) ∧ (x.bb = x.bb ∧ Off.lit 0 = Off.lit 0) ∧ 
 ((x5.bits : Int) = (x6.bits : Int)) ∧ 
 ((x5.num : Int) = (x6.num : Int)) ∧ 
 (x.big = x.big) ∧ 
 (x5.pk = x6.pk ∧ x5.pkn = x6.pkn) ∧ 
 (x5.dis = x6.dis) ∧ 
 ((x5.fed : Int) = (x6.fed : Int)) ∧ 
 (Value.pointer none = Value.pointer none) ∧ (x.bb = x.bb ∧ Off.lit 0 = Off.lit 0) ∧ 
 (Value.pointer none = Value.pointer none) ∧ (x.sb = x.sb) ∧ 
 (x.vs = x.vs ∧ ints (nats (ints x.bs)) = ints x.bs) ∧ 
 ((x5.off : Int) = (x6.off : Int)) ∧ 
 (x5.prev = x6.prev) ∧ 
 (x.bb = x.bb) ∧ 
 (x.sb = x.sb ∧ Off.lit 0 = Off.lit 0) ∧ 
 ((x5.pos : Int) = (x6.pos : Int)) ∧ 
 (x5.bv = x6.bv ∧ x5.bn = x6.bn) ∧ 
 ((512 : Nat) = (512 : Nat) ∧ x5.arr = x6.arr) ∧ 
 (bx = bx ∧ putAt l 0 (List.take x2.2 (List.drop (RS.P x / (8 : Nat)) x.bs)) = ints (List.take (List.length l) (List.drop (RS.P x / (8 : Nat)) x.bs))) ∧ 
 (True)) ∨
 (∃ x6 : (RV × Nat × Addr × List Int), (ends145 x l x6.1 (x6.2.1) (Prod.snd (x6.2.2))) ∧ 
 ((x2.2 : Int) + (0 : Int) = (↑(x6.2.1) : Int)) ∧ 
 (Value.nilIface = errV (Prod.fst (x6.2.2))) ∧ 
 (x.m = x.m) ∧ 
 (relLe x.rel x.rel) ∧ 
 (x.rb = x.rb) ∧ 
 ((x5.off : Int) = (x6.1.off : Int)) ∧ 
 (x.sb = x.sb ∧ Off.lit 0 = Off.lit 0) ∧ 
 (Value.nilIface = Value.nilIface) ∧ (x.bb = x.bb ∧ Off.lit 0 = Off.lit 0) ∧ 
 ((x5.bits : Int) = (x6.1.bits : Int)) ∧ 
 ((x5.num : Int) = (x6.1.num : Int)) ∧ 
 (x.big = x.big) ∧ 
 (x5.pk = x6.1.pk ∧ x5.pkn = x6.1.pkn) ∧ 
 (x5.dis = x6.1.dis) ∧ 
 ((x5.fed : Int) = (x6.1.fed : Int)) ∧ 
 (Value.pointer none = Value.pointer none) ∧ (x.bb = x.bb ∧ Off.lit 0 = Off.lit 0) ∧ 
 (Value.pointer none = Value.pointer none) ∧ (x.sb = x.sb) ∧ 
 (x.vs = x.vs ∧ ints (nats (ints x.bs)) = ints x.bs) ∧ 
 ((x5.off : Int) = (x6.1.off : Int)) ∧ 
 (x5.prev = x6.1.prev) ∧ 
 (x.bb = x.bb) ∧ 
 (x.sb = x.sb ∧ Off.lit 0 = Off.lit 0) ∧ 
 ((x5.pos : Int) = (x6.1.pos : Int)) ∧ 
 (x5.bv = x6.1.bv ∧ x5.bn = x6.1.bn) ∧ 
 ((512 : Nat) = (512 : Nat) ∧ x5.arr = x6.1.arr) ∧ 
 (bx = bx ∧ putAt l 0 (List.take x2.2 (List.drop (RS.P x / (8 : Nat)) x.bs)) = Prod.snd (x6.2.2)) ∧ 
 (True))))
 (Br (decide ((x2.2 : Int) + (0 : Int) > (0 : Int)))
 ((Gl.E G = Gl.E G) ∧ ((∃ x6 : (RV), (full145 x (List.length l) x6) ∧ 
 ((x2.2 : Int) + (0 : Int) = (↑(List.length l) : Int)) ∧ 
 (errV (Gl.U G) = Value.nilIface) ∧ 
 (x.m = x.m) ∧ 
 (relLe x.rel x.rel) ∧ 
 (x.rb = x.rb) ∧ 
 ((x5.off : Int) = (x6.off : Int)) ∧ 
 (x.sb = x.sb ∧ Off.lit 0 = Off.lit 0) ∧ 
 (Value.nilIface = Value.nilIface) ∧ (x.bb = x.bb ∧ Off.lit 0 = Off.lit 0) ∧ 
 ((x5.bits : Int) = (x6.bits : Int)) ∧ 
 ((x5.num : Int) = (x6.num : Int)) ∧ 
 (x.big = x.big) ∧ 
 (x5.pk = x6.pk ∧ x5.pkn = x6.pkn) ∧ 
 (x5.dis = x6.dis) ∧ 
 ((x5.fed : Int) = (x6.fed : Int)) ∧ 
 (Value.pointer none = Value.pointer none) ∧ (x.bb = x.bb ∧ Off.lit 0 = Off.lit 0) ∧ 
 (Value.pointer none = Value.pointer none) ∧ (x.sb = x.sb) ∧ 
 (x.vs = x.vs ∧ ints (nats (ints x.bs)) = ints x.bs) ∧ 
 ((x5.off : Int) = (x6.off : Int)) ∧ 
 (x5.prev = x6.prev) ∧ 
 (x.bb = x.bb) ∧ 
 (x.sb = x.sb ∧ Off.lit 0 = Off.lit 0) ∧ 
 ((x5.pos : Int) = (x6.pos : Int)) ∧ 
 (x5.bv = x6.bv ∧ x5.bn = x6.bn) ∧ 
 ((512 : Nat) = (512 : Nat) ∧ x5.arr = x6.arr) ∧ 
 (bx = bx ∧ putAt l 0 (List.take x2.2 (List.drop (RS.P x / (8 : Nat)) x.bs)) = ints (List.take (List.length l) (List.drop (RS.P x / (8 : Nat)) x.bs))) ∧ 
 (True)) ∨
 (∃ x6 : (RV × Nat × Addr × List Int), (ends145 x l x6.1 (x6.2.1) (Prod.snd (x6.2.2))) ∧ 
 ((x2.2 : Int) + (0 : Int) = (↑(x6.2.1) : Int)) ∧ 
 (errV (Gl.U G) = errV (Prod.fst (x6.2.2))) ∧ 
 (x.m = x.m) ∧ 
 (relLe x.rel x.rel) ∧ 
 (x.rb = x.rb) ∧ 
 ((x5.off : Int) = (x6.1.off : Int)) ∧ 
 (x.sb = x.sb ∧ Off.lit 0 = Off.lit 0) ∧ 
 (Value.nilIface = Value.nilIface) ∧ (x.bb = x.bb ∧ Off.lit 0 = Off.lit 0) ∧ 
 ((x5.bits : Int) = (x6.1.bits : Int)) ∧ 
 ((x5.num : Int) = (x6.1.num : Int)) ∧ 
 (x.big = x.big) ∧ 
 (x5.pk = x6.1.pk ∧ x5.pkn = x6.1.pkn) ∧ 
 (x5.dis = x6.1.dis) ∧ 
 ((x5.fed : Int) = (x6.1.fed : Int)) ∧ 
 (Value.pointer none = Value.pointer none) ∧ (x.bb = x.bb ∧ Off.lit 0 = Off.lit 0) ∧ 
 (Value.pointer none = Value.pointer none) ∧ (x.sb = x.sb) ∧ 
 (x.vs = x.vs ∧ ints (nats (ints x.bs)) = ints x.bs) ∧ 
 ((x5.off : Int) = (x6.1.off : Int)) ∧ 
 (x5.prev = x6.1.prev) ∧ 
 (x.bb = x.bb) ∧ 
 (x.sb = x.sb ∧ Off.lit 0 = Off.lit 0) ∧ 
 ((x5.pos : Int) = (x6.1.pos : Int)) ∧ 
 (x5.bv = x6.1.bv ∧ x5.bn = x6.1.bn) ∧ 
 ((512 : Nat) = (512 : Nat) ∧ x5.arr = x6.1.arr) ∧ 
 (bx = bx ∧ putAt l 0 (List.take x2.2 (List.drop (RS.P x / (8 : Nat)) x.bs)) = Prod.snd (x6.2.2)) ∧ 
 (True))))
 (((∃ x6 : (RV), (full145 x (List.length l) x6) ∧ 
 ((x2.2 : Int) + (0 : Int) = (↑(List.length l) : Int)) ∧ 
 (errV (Gl.E G) = Value.nilIface) ∧ 
 (x.m = x.m) ∧ 
 (relLe x.rel x.rel) ∧ 
 (x.rb = x.rb) ∧ 
 ((x5.off : Int) = (x6.off : Int)) ∧ 
 (x.sb = x.sb ∧ Off.lit 0 = Off.lit 0) ∧ 
 (Value.nilIface = Value.nilIface) ∧ (x.bb = x.bb ∧ Off.lit 0 = Off.lit 0) ∧ 
 ((x5.bits : Int) = (x6.bits : Int)) ∧ 
 ((x5.num : Int) = (x6.num : Int)) ∧ 
 (x.big = x.big) ∧ 
 (x5.pk = x6.pk ∧ x5.pkn = x6.pkn) ∧ 
 (x5.dis = x6.dis) ∧ 
 ((x5.fed : Int) = (x6.fed : Int)) ∧ 
 (Value.pointer none = Value.pointer none) ∧ (x.bb = x.bb ∧ Off.lit 0 = Off.lit 0) ∧ 
 (Value.pointer none = Value.pointer none) ∧ (x.sb = x.sb) ∧ 
 (x.vs = x.vs ∧ ints (nats (ints x.bs)) = ints x.bs) ∧ 
 ((x5.off : Int) = (x6.off : Int)) ∧ 
 (x5.prev = x6.prev) ∧ 
 (x.bb = x.bb) ∧ 
 (x.sb = x.sb ∧ Off.lit 0 = Off.lit 0) ∧ 
 ((x5.pos : Int) = (x6.pos : Int)) ∧ 
 (x5.bv = x6.bv ∧ x5.bn = x6.bn) ∧ 
 ((512 : Nat) = (512 : Nat) ∧ x5.arr = x6.arr) ∧ 
 (bx = bx ∧ putAt l 0 (List.take x2.2 (List.drop (RS.P x / (8 : Nat)) x.bs)) = ints (List.take (List.length l) (List.drop (RS.P x / (8 : Nat)) x.bs))) ∧ 
 (True)) ∨
 (∃ x6 : (RV × Nat × Addr × List Int), (ends145 x l x6.1 (x6.2.1) (Prod.snd (x6.2.2))) ∧ 
 ((x2.2 : Int) + (0 : Int) = (↑(x6.2.1) : Int)) ∧ 
 (errV (Gl.E G) = errV (Prod.fst (x6.2.2))) ∧ 
 (x.m = x.m) ∧ 
 (relLe x.rel x.rel) ∧ 
 (x.rb = x.rb) ∧ 
 ((x5.off : Int) = (x6.1.off : Int)) ∧ 
 (x.sb = x.sb ∧ Off.lit 0 = Off.lit 0) ∧ 
 (Value.nilIface = Value.nilIface) ∧ (x.bb = x.bb ∧ Off.lit 0 = Off.lit 0) ∧ 
 ((x5.bits : Int) = (x6.1.bits : Int)) ∧ 
 ((x5.num : Int) = (x6.1.num : Int)) ∧ 
 (x.big = x.big) ∧ 
 (x5.pk = x6.1.pk ∧ x5.pkn = x6.1.pkn) ∧ 
 (x5.dis = x6.1.dis) ∧ 
 ((x5.fed : Int) = (x6.1.fed : Int)) ∧ 
 (Value.pointer none = Value.pointer none) ∧ (x.bb = x.bb ∧ Off.lit 0 = Off.lit 0) ∧ 
 (Value.pointer none = Value.pointer none) ∧ (x.sb = x.sb) ∧ 
 (x.vs = x.vs ∧ ints (nats (ints x.bs)) = ints x.bs) ∧ 
 ((x5.off : Int) = (x6.1.off : Int)) ∧ 
 (x5.prev = x6.1.prev) ∧ 
 (x.bb = x.bb) ∧ 
 (x.sb = x.sb ∧ Off.lit 0 = Off.lit 0) ∧ 
 ((x5.pos : Int) = (x6.1.pos : Int)) ∧ 
 (x5.bv = x6.1.bv ∧ x5.bn = x6.1.bn) ∧ 
 ((512 : Nat) = (512 : Nat) ∧ x5.arr = x6.1.arr) ∧ 
 (bx = bx ∧ putAt l 0 (List.take x2.2 (List.drop (RS.P x / (8 : Nat)) x.bs)) = Prod.snd (x6.2.2)) ∧ 
 (True))))))
 (Br (decide ((x2.2 : Int) + (0 : Int) ≥ (↑(List.length l) : Int)))
 (((∃ x6 : (RV), (full145 x (List.length l) x6) ∧ 
 ((x2.2 : Int) + (0 : Int) = (↑(List.length l) : Int)) ∧ 
 (Value.nilIface = Value.nilIface) ∧ (x.m = x.m) ∧ 
 (relLe x.rel x.rel) ∧ 
 (x.rb = x.rb) ∧ 
 ((x5.off : Int) = (x6.off : Int)) ∧ 
 (x.sb = x.sb ∧ Off.lit 0 = Off.lit 0) ∧ 
 (Value.nilIface = Value.nilIface) ∧ (x.bb = x.bb ∧ Off.lit 0 = Off.lit 0) ∧ 
 ((x5.bits : Int) = (x6.bits : Int)) ∧ 
 ((x5.num : Int) = (x6.num : Int)) ∧ 
 (x.big = x.big) ∧ 
 (x5.pk = x6.pk ∧ x5.pkn = x6.pkn) ∧ 
 (x5.dis = x6.dis) ∧ 
 ((x5.fed : Int) = (x6.fed : Int)) ∧ 
 (Value.pointer none = Value.pointer none) ∧ (x.bb = x.bb ∧ Off.lit 0 = Off.lit 0) ∧ 
 (Value.pointer none = Value.pointer none) ∧ (x.sb = x.sb) ∧ 
 (x.vs = x.vs ∧ ints (nats (ints x.bs)) = ints x.bs) ∧ 
 ((x5.off : Int) = (x6.off : Int)) ∧ 
 (x5.prev = x6.prev) ∧ 
 (x.bb = x.bb) ∧ 
 (x.sb = x.sb ∧ Off.lit 0 = Off.lit 0) ∧ 
 ((x5.pos : Int) = (x6.pos : Int)) ∧ 
 (x5.bv = x6.bv ∧ x5.bn = x6.bn) ∧ 
 ((512 : Nat) = (512 : Nat) ∧ x5.arr = x6.arr) ∧ 
 (bx = bx ∧ putAt l 0 (List.take x2.2 (List.drop (RS.P x / (8 : Nat)) x.bs)) = ints (List.take (List.length l) (List.drop (RS.P x / (8 : Nat)) x.bs))) ∧ 
 (True)) ∨
 (∃ x6 : (RV × Nat × Addr × List Int), (ends145 x l x6.1 (x6.2.1) (Prod.snd (x6.2.2))) ∧ 
 ((x2.2 : Int) + (0 : Int) = (↑(x6.2.1) : Int)) ∧ 
 (Value.nilIface = errV (Prod.fst (x6.2.2))) ∧ 
 (x.m = x.m) ∧ 
 (relLe x.rel x.rel) ∧ 
 (x.rb = x.rb) ∧ 
 ((x5.off : Int) = (x6.1.off : Int)) ∧ 
 (x.sb = x.sb ∧ Off.lit 0 = Off.lit 0) ∧ 
 (Value.nilIface = Value.nilIface) ∧ (x.bb = x.bb ∧ Off.lit 0 = Off.lit 0) ∧ 
 ((x5.bits : Int) = (x6.1.bits : Int)) ∧ 
 ((x5.num : Int) = (x6.1.num : Int)) ∧ 
 (x.big = x.big) ∧ 
 (x5.pk = x6.1.pk ∧ x5.pkn = x6.1.pkn) ∧ 
 (x5.dis = x6.1.dis) ∧ 
 ((x5.fed : Int) = (x6.1.fed : Int)) ∧ 
 (Value.pointer none = Value.pointer none) ∧ (x.bb = x.bb ∧ Off.lit 0 = Off.lit 0) ∧ 
 (Value.pointer none = Value.pointer none) ∧ (x.sb = x.sb) ∧ 
 (x.vs = x.vs ∧ ints (nats (ints x.bs)) = ints x.bs) ∧ 
 ((x5.off : Int) = (x6.1.off : Int)) ∧ 
 (x5.prev = x6.1.prev) ∧ 
 (x.bb = x.bb) ∧ 
 (x.sb = x.sb ∧ Off.lit 0 = Off.lit 0) ∧ 
 ((x5.pos : Int) = (x6.1.pos : Int)) ∧ 
 (x5.bv = x6.1.bv ∧ x5.bn = x6.1.bn) ∧ 
 ((512 : Nat) = (512 : Nat) ∧ x5.arr = x6.1.arr) ∧ 
 (bx = bx ∧ putAt l 0 (List.take x2.2 (List.drop (RS.P x / (8 : Nat)) x.bs)) = Prod.snd (x6.2.2)) ∧ 
 (True))))
 (Br (decide ((x2.2 : Int) + (0 : Int) > (0 : Int)))
 ((Gl.E G = Gl.E G) ∧ ((∃ x6 : (RV), (full145 x (List.length l) x6) ∧ 
 ((x2.2 : Int) + (0 : Int) = (↑(List.length l) : Int)) ∧ 
 (errV (Gl.U G) = Value.nilIface) ∧ 
 (x.m = x.m) ∧ 
 (relLe x.rel x.rel) ∧ 
 (x.rb = x.rb) ∧ 
 ((x5.off : Int) = (x6.off : Int)) ∧ 
 (x.sb = x.sb ∧ Off.lit 0 = Off.lit 0) ∧ 
 (Value.nilIface = Value.nilIface) ∧ (x.bb = x.bb ∧ Off.lit 0 = Off.lit 0) ∧ 
 ((x5.bits : Int) = (x6.bits : Int)) ∧ 
 ((x5.num : Int) = (x6.num : Int)) ∧ 
 (x.big = x.big) ∧ 
 (x5.pk = x6.pk ∧ x5.pkn = x6.pkn) ∧ 
 (x5.dis = x6.dis) ∧ 
 ((x5.fed : Int) = (x6.fed : Int)) ∧ 
 (Value.pointer none = Value.pointer none) ∧ (x.bb = x.bb ∧ Off.lit 0 = Off.lit 0) ∧ 
 (Value.pointer none = Value.pointer none) ∧ (x.sb = x.sb) ∧ 
 (x.vs = x.vs ∧ ints (nats (ints x.bs)) = ints x.bs) ∧ 
 ((x5.off : Int) = (x6.off : Int)) ∧ 
 (x5.prev = x6.prev) ∧ 
 (x.bb = x.bb) ∧ 
 (x.sb = x.sb ∧ Off.lit 0 = Off.lit 0) ∧ 
 ((x5.pos : Int) = (x6.pos : Int)) ∧ 
 (x5.bv = x6.bv ∧ x5.bn = x6.bn) ∧ 
 ((512 : Nat) = (512 : Nat) ∧ x5.arr = x6.arr) ∧ 
 (bx = bx ∧ putAt l 0 (List.take x2.2 (List.drop (RS.P x / (8 : Nat)) x.bs)) = ints (List.take (List.length l) (List.drop (RS.P x / (8 : Nat)) x.bs))) ∧ 
 (True)) ∨
 (∃ x6 : (RV × Nat × Addr × List Int), (ends145 x l x6.1 (x6.2.1) (Prod.snd (x6.2.2))) ∧ 
 ((x2.2 : Int) + (0 : Int) = (↑(x6.2.1) : Int)) ∧ 
 (errV (Gl.U G) = errV (Prod.fst (x6.2.2))) ∧ 
 (x.m = x.m) ∧ 
 (relLe x.rel x.rel) ∧ 
 (x.rb = x.rb) ∧ 
 ((x5.off : Int) = (x6.1.off : Int)) ∧ 
 (x.sb = x.sb ∧ Off.lit 0 = Off.lit 0) ∧ 
 (Value.nilIface = Value.nilIface) ∧ (x.bb = x.bb ∧ Off.lit 0 = Off.lit 0) ∧ 
 ((x5.bits : Int) = (x6.1.bits : Int)) ∧ 
 ((x5.num : Int) = (x6.1.num : Int)) ∧ 
 (x.big = x.big) ∧ 
 (x5.pk = x6.1.pk ∧ x5.pkn = x6.1.pkn) ∧ 
 (x5.dis = x6.1.dis) ∧ 
 ((x5.fed : Int) = (x6.1.fed : Int)) ∧ 
 (Value.pointer none = Value.pointer none) ∧ (x.bb = x.bb ∧ Off.lit 0 = Off.lit 0) ∧ 
 (Value.pointer none = Value.pointer none) ∧ (x.sb = x.sb) ∧ 
 (x.vs = x.vs ∧ ints (nats (ints x.bs)) = ints x.bs) ∧ 
 ((x5.off : Int) = (x6.1.off : Int)) ∧ 
 (x5.prev = x6.1.prev) ∧ 
 (x.bb = x.bb) ∧ 
 (x.sb = x.sb ∧ Off.lit 0 = Off.lit 0) ∧ 
 ((x5.pos : Int) = (x6.1.pos : Int)) ∧ 
 (x5.bv = x6.1.bv ∧ x5.bn = x6.1.bn) ∧ 
 ((512 : Nat) = (512 : Nat) ∧ x5.arr = x6.1.arr) ∧ 
 (bx = bx ∧ putAt l 0 (List.take x2.2 (List.drop (RS.P x / (8 : Nat)) x.bs)) = Prod.snd (x6.2.2)) ∧ 
 (True))))
 (((∃ x6 : (RV), (full145 x (List.length l) x6) ∧ 
 ((x2.2 : Int) + (0 : Int) = (↑(List.length l) : Int)) ∧ 
 (errV (Gl.E G) = Value.nilIface) ∧ 
 (x.m = x.m) ∧ 
 (relLe x.rel x.rel) ∧ 
 (x.rb = x.rb) ∧ 
 ((x5.off : Int) = (x6.off : Int)) ∧ 
 (x.sb = x.sb ∧ Off.lit 0 = Off.lit 0) ∧ 
 (Value.nilIface = Value.nilIface) ∧ (x.bb = x.bb ∧ Off.lit 0 = Off.lit 0) ∧ 
 ((x5.bits : Int) = (x6.bits : Int)) ∧ 
 ((x5.num : Int) = (x6.num : Int)) ∧ 
 (x.big = x.big) ∧ 
 (x5.pk = x6.pk ∧ x5.pkn = x6.pkn) ∧ 
 (x5.dis = x6.dis) ∧ 
 ((x5.fed : Int) = (x6.fed : Int)) ∧ 
 (Value.pointer none = Value.pointer none) ∧ (x.bb = x.bb ∧ Off.lit 0 = Off.lit 0) ∧ 
 (Value.pointer none = Value.pointer none) ∧ (x.sb = x.sb) ∧ 
 (x.vs = x.vs ∧ ints (nats (ints x.bs)) = ints x.bs) ∧ 
 ((x5.off : Int) = (x6.off : Int)) ∧ 
 (x5.prev = x6.prev) ∧ 
 (x.bb = x.bb) ∧ 
 (x.sb = x.sb ∧ Off.lit 0 = Off.lit 0) ∧ 
 ((x5.pos : Int) = (x6.pos : Int)) ∧ 
 (x5.bv = x6.bv ∧ x5.bn = x6.bn) ∧ 
 ((512 : Nat) = (512 : Nat) ∧ x5.arr = x6.arr) ∧ 
 (bx = bx ∧ putAt l 0 (List.take x2.2 (List.drop (RS.P x / (8 : Nat)) x.bs)) = ints (List.take (List.length l) (List.drop (RS.P x / (8 : Nat)) x.bs))) ∧ 
 (True)) ∨
 (∃ x6 : (RV × Nat × Addr × List Int), (ends145 x l x6.1 (x6.2.1) (Prod.snd (x6.2.2))) ∧ 
 ((x2.2 : Int) + (0 : Int) = (↑(x6.2.1) : Int)) ∧ 
 (errV (Gl.E G) = errV (Prod.fst (x6.2.2))) ∧ 
 (x.m = x.m) ∧ 
 (relLe x.rel x.rel) ∧ 
 (x.rb = x.rb) ∧ 
 ((x5.off : Int) = (x6.1.off : Int)) ∧ 
 (x.sb = x.sb ∧ Off.lit 0 = Off.lit 0) ∧ 
 (Value.nilIface = Value.nilIface) ∧ (x.bb = x.bb ∧ Off.lit 0 = Off.lit 0) ∧ 
 ((x5.bits : Int) = (x6.1.bits : Int)) ∧ 
 ((x5.num : Int) = (x6.1.num : Int)) ∧ 
 (x.big = x.big) ∧ 
 (x5.pk = x6.1.pk ∧ x5.pkn = x6.1.pkn) ∧ 
 (x5.dis = x6.1.dis) ∧ 
 ((x5.fed : Int) = (x6.1.fed : Int)) ∧ 
 (Value.pointer none = Value.pointer none) ∧ (x.bb = x.bb ∧ Off.lit 0 = Off.lit 0) ∧ 
 (Value.pointer none = Value.pointer none) ∧ (x.sb = x.sb) ∧ 
 (x.vs = x.vs ∧ ints (nats (ints x.bs)) = ints x.bs) ∧ 
 ((x5.off : Int) = (x6.1.off : Int)) ∧ 
 (x5.prev = x6.1.prev) ∧ 
 (x.bb = x.bb) ∧ 
 (x.sb = x.sb ∧ Off.lit 0 = Off.lit 0) ∧ 
 ((x5.pos : Int) = (x6.1.pos : Int)) ∧ 
 (x5.bv = x6.1.bv ∧ x5.bn = x6.1.bn) ∧ 
 ((512 : Nat) = (512 : Nat) ∧ x5.arr = x6.1.arr) ∧ 
 (bx = bx ∧ putAt l 0 (List.take x2.2 (List.drop (RS.P x / (8 : Nat)) x.bs)) = Prod.snd (x6.2.2)) ∧ 
 (True)))))))))
 (Br (decide ((x2.2 : Int) ≥ (↑(List.length l) : Int)))
 (((∃ x3 : (RV), (full145 x (List.length l) x3) ∧ 
 ((x2.2 : Int) = (↑(List.length l) : Int)) ∧ 
 (Value.nilIface = Value.nilIface) ∧ (x.m = x.m) ∧ 
 (relLe x.rel x.rel) ∧ 
 (x.rb = x.rb) ∧ 
 ((x2.1.off : Int) = (x3.off : Int)) ∧ 
 (x.sb = x.sb ∧ Off.lit 0 = Off.lit 0) ∧ 
 (Value.nilIface = Value.nilIface) ∧ (x.bb = x.bb ∧ Off.lit 0 = Off.lit 0) ∧ 
 ((x2.1.bits : Int) = (x3.bits : Int)) ∧ 
 ((x2.1.num : Int) = (x3.num : Int)) ∧ 
 (x.big = x.big) ∧ 
 (x2.1.pk = x3.pk ∧ x2.1.pkn = x3.pkn) ∧ 
 (x2.1.dis = x3.dis) ∧ 
 ((x2.1.fed : Int) = (x3.fed : Int)) ∧ 
 (Value.pointer none = Value.pointer none) ∧ (x.bb = x.bb ∧ Off.lit 0 = Off.lit 0) ∧ 
 (Value.pointer none = Value.pointer none) ∧ (x.sb = x.sb) ∧ 
 (x.vs = x.vs ∧ ints x.bs = ints x.bs) ∧ 
 ((x2.1.off : Int) = (x3.off : Int)) ∧ 
 (x2.1.prev = x3.prev) ∧ 
 (x.bb = x.bb) ∧ 
 (x.sb = x.sb ∧ Off.lit 0 = Off.lit 0) ∧ 
 ((x2.1.pos : Int) = (x3.pos : Int)) ∧ 
 (x2.1.bv = x3.bv ∧ x2.1.bn = x3.bn) ∧ 
 ((512 : Nat) = (512 : Nat) ∧ x2.1.arr = x3.arr) ∧ 
 (bx = bx ∧ putAt l 0 (List.take x2.2 (List.drop (RS.P x / (8 : Nat)) x.bs)) = ints (List.take (List.length l) (List.drop (RS.P x / (8 : Nat)) x.bs))) ∧ 
 (True)) ∨
 (∃ x3 : (RV × Nat × Addr × List Int), (ends145 x l x3.1 (x3.2.1) (Prod.snd (x3.2.2))) ∧ 
 ((x2.2 : Int) = (↑(x3.2.1) : Int)) ∧ 
 (Value.nilIface = errV (Prod.fst (x3.2.2))) ∧ 
 (x.m = x.m) ∧ 
 (relLe x.rel x.rel) ∧ 
 (x.rb = x.rb) ∧ 
 ((x2.1.off : Int) = (x3.1.off : Int)) ∧ 
 (x.sb = x.sb ∧ Off.lit 0 = Off.lit 0) ∧ 
 (Value.nilIface = Value.nilIface) ∧ (x.bb = x.bb ∧ Off.lit 0 = Off.lit 0) ∧ 
 ((x2.1.bits : Int) = (x3.1.bits : Int)) ∧ 
 ((x2.1.num : Int) = (x3.1.num : Int)) ∧ 
 (x.big = x.big) ∧ 
 (x2.1.pk = x3.1.pk ∧ x2.1.pkn = x3.1.pkn) ∧ 
 (x2.1.dis = x3.1.dis) ∧ 
 ((x2.1.fed : Int) = (x3.1.fed : Int)) ∧ 
 (Value.pointer none = Value.pointer none) ∧ (x.bb = x.bb ∧ Off.lit 0 = Off.lit 0) ∧ 
 (Value.pointer none = Value.pointer none) ∧ (x.sb = x.sb) ∧ 
 (x.vs = x.vs ∧ ints x.bs = ints x.bs) ∧ 
 ((x2.1.off : Int) = (x3.1.off : Int)) ∧ 
 (x2.1.prev = x3.1.prev) ∧ 
 (x.bb = x.bb) ∧ 
 (x.sb = x.sb ∧ Off.lit 0 = Off.lit 0) ∧ 
 ((x2.1.pos : Int) = (x3.1.pos : Int)) ∧ 
 (x2.1.bv = x3.1.bv ∧ x2.1.bn = x3.1.bn) ∧ 
 ((512 : Nat) = (512 : Nat) ∧ x2.1.arr = x3.1.arr) ∧ 
 (bx = bx ∧ putAt l 0 (List.take x2.2 (List.drop (RS.P x / (8 : Nat)) x.bs)) = Prod.snd (x3.2.2)) ∧ 
 (True))))
 (Br (decide ((x2.2 : Int) > (0 : Int)))
 (((∃ x3 : (RV), (full145 x (List.length l) x3) ∧ 
 ((x2.2 : Int) = (↑(List.length l) : Int)) ∧ 
 (Value.nilIface = Value.nilIface) ∧ (x.m = x.m) ∧ 
 (relLe x.rel x.rel) ∧ 
 (x.rb = x.rb) ∧ 
 ((x2.1.off : Int) = (x3.off : Int)) ∧ 
 (x.sb = x.sb ∧ Off.lit 0 = Off.lit 0) ∧ 
 (Value.nilIface = Value.nilIface) ∧ (x.bb = x.bb ∧ Off.lit 0 = Off.lit 0) ∧ 
 ((x2.1.bits : Int) = (x3.bits : Int)) ∧ 
 ((x2.1.num : Int) = (x3.num : Int)) ∧ 
 (x.big = x.big) ∧ 
 (x2.1.pk = x3.pk ∧ x2.1.pkn = x3.pkn) ∧ 
 (x2.1.dis = x3.dis) ∧ 
 ((x2.1.fed : Int) = (x3.fed : Int)) ∧ 
 (Value.pointer none = Value.pointer none) ∧ (x.bb = x.bb ∧ Off.lit 0 = Off.lit 0) ∧ 
 (Value.pointer none = Value.pointer none) ∧ (x.sb = x.sb) ∧ 
 (x.vs = x.vs ∧ ints x.bs = ints x.bs) ∧ 
 ((x2.1.off : Int) = (x3.off : Int)) ∧ 
 (x2.1.prev = x3.prev) ∧ 
 (x.bb = x.bb) ∧ 
 (x.sb = x.sb ∧ Off.lit 0 = Off.lit 0) ∧ 
 ((x2.1.pos : Int) = (x3.pos : Int)) ∧ 
 (x2.1.bv = x3.bv ∧ x2.1.bn = x3.bn) ∧ 
 ((512 : Nat) = (512 : Nat) ∧ x2.1.arr = x3.arr) ∧ 
 (bx = bx ∧ putAt l 0 (List.take x2.2 (List.drop (RS.P x / (8 : Nat)) x.bs)) = ints (List.take (List.length l) (List.drop (RS.P x / (8 : Nat)) x.bs))) ∧ 
 (True)) ∨
 (∃ x3 : (RV × Nat × Addr × List Int), (ends145 x l x3.1 (x3.2.1) (Prod.snd (x3.2.2))) ∧ 
 ((x2.2 : Int) = (↑(x3.2.1) : Int)) ∧ 
 (Value.nilIface = errV (Prod.fst (x3.2.2))) ∧ 
 (x.m = x.m) ∧ 
 (relLe x.rel x.rel) ∧ 
 (x.rb = x.rb) ∧ 
 ((x2.1.off : Int) = (x3.1.off : Int)) ∧ 
 (x.sb = x.sb ∧ Off.lit 0 = Off.lit 0) ∧ 
 (Value.nilIface = Value.nilIface) ∧ (x.bb = x.bb ∧ Off.lit 0 = Off.lit 0) ∧ 
 ((x2.1.bits : Int) = (x3.1.bits : Int)) ∧ 
 ((x2.1.num : Int) = (x3.1.num : Int)) ∧ 
 (x.big = x.big) ∧ 
 (x2.1.pk = x3.1.pk ∧ x2.1.pkn = x3.1.pkn) ∧ 
 (x2.1.dis = x3.1.dis) ∧ 
 ((x2.1.fed : Int) = (x3.1.fed : Int)) ∧ 
 (Value.pointer none = Value.pointer none) ∧ (x.bb = x.bb ∧ Off.lit 0 = Off.lit 0) ∧ 
 (Value.pointer none = Value.pointer none) ∧ (x.sb = x.sb) ∧ 
 (x.vs = x.vs ∧ ints x.bs = ints x.bs) ∧ 
 ((x2.1.off : Int) = (x3.1.off : Int)) ∧ 
 (x2.1.prev = x3.1.prev) ∧ 
 (x.bb = x.bb) ∧ 
 (x.sb = x.sb ∧ Off.lit 0 = Off.lit 0) ∧ 
 ((x2.1.pos : Int) = (x3.1.pos : Int)) ∧ 
 (x2.1.bv = x3.1.bv ∧ x2.1.bn = x3.1.bn) ∧ 
 ((512 : Nat) = (512 : Nat) ∧ x2.1.arr = x3.1.arr) ∧ 
 (bx = bx ∧ putAt l 0 (List.take x2.2 (List.drop (RS.P x / (8 : Nat)) x.bs)) = Prod.snd (x3.2.2)) ∧ 
 (True))))
 (((∃ x3 : (RV), (full145 x (List.length l) x3) ∧ 
 ((x2.2 : Int) = (↑(List.length l) : Int)) ∧ 
 (Value.nilIface = Value.nilIface) ∧ (x.m = x.m) ∧ 
 (relLe x.rel x.rel) ∧ 
 (x.rb = x.rb) ∧ 
 ((x2.1.off : Int) = (x3.off : Int)) ∧ 
 (x.sb = x.sb ∧ Off.lit 0 = Off.lit 0) ∧ 
 (Value.nilIface = Value.nilIface) ∧ (x.bb = x.bb ∧ Off.lit 0 = Off.lit 0) ∧ 
 ((x2.1.bits : Int) = (x3.bits : Int)) ∧ 
 ((x2.1.num : Int) = (x3.num : Int)) ∧ 
 (x.big = x.big) ∧ 
 (x2.1.pk = x3.pk ∧ x2.1.pkn = x3.pkn) ∧ 
 (x2.1.dis = x3.dis) ∧ 
 ((x2.1.fed : Int) = (x3.fed : Int)) ∧ 
 (Value.pointer none = Value.pointer none) ∧ (x.bb = x.bb ∧ Off.lit 0 = Off.lit 0) ∧ 
 (Value.pointer none = Value.pointer none) ∧ (x.sb = x.sb) ∧ 
 (x.vs = x.vs ∧ ints x.bs = ints x.bs) ∧ 
 ((x2.1.off : Int) = (x3.off : Int)) ∧ 
 (x2.1.prev = x3.prev) ∧ 
 (x.bb = x.bb) ∧ 
 (x.sb = x.sb ∧ Off.lit 0 = Off.lit 0) ∧ 
 ((x2.1.pos : Int) = (x3.pos : Int)) ∧ 
 (x2.1.bv = x3.bv ∧ x2.1.bn = x3.bn) ∧ 
 ((512 : Nat) = (512 : Nat) ∧ x2.1.arr = x3.arr) ∧ 
 (bx = bx ∧ putAt l 0 (List.take x2.2 (List.drop (RS.P x / (8 : Nat)) x.bs)) = ints (List.take (List.length l) (List.drop (RS.P x / (8 : Nat)) x.bs))) ∧ 
 (True)) ∨
 (∃ x3 : (RV × Nat × Addr × List Int), (ends145 x l x3.1 (x3.2.1) (Prod.snd (x3.2.2))) ∧ 
 ((x2.2 : Int) = (↑(x3.2.1) : Int)) ∧ 
 (Value.nilIface = errV (Prod.fst (x3.2.2))) ∧ 
 (x.m = x.m) ∧ 
 (relLe x.rel x.rel) ∧ 
 (x.rb = x.rb) ∧ 
 ((x2.1.off : Int) = (x3.1.off : Int)) ∧ 
 (x.sb = x.sb ∧ Off.lit 0 = Off.lit 0) ∧ 
 (Value.nilIface = Value.nilIface) ∧ (x.bb = x.bb ∧ Off.lit 0 = Off.lit 0) ∧ 
 ((x2.1.bits : Int) = (x3.1.bits : Int)) ∧ 
 ((x2.1.num : Int) = (x3.1.num : Int)) ∧ 
 (x.big = x.big) ∧ 
 (x2.1.pk = x3.1.pk ∧ x2.1.pkn = x3.1.pkn) ∧ 
 (x2.1.dis = x3.1.dis) ∧ 
 ((x2.1.fed : Int) = (x3.1.fed : Int)) ∧ 
 (Value.pointer none = Value.pointer none) ∧ (x.bb = x.bb ∧ Off.lit 0 = Off.lit 0) ∧ 
 (Value.pointer none = Value.pointer none) ∧ (x.sb = x.sb) ∧ 
 (x.vs = x.vs ∧ ints x.bs = ints x.bs) ∧ 
 ((x2.1.off : Int) = (x3.1.off : Int)) ∧ 
 (x2.1.prev = x3.1.prev) ∧ 
 (x.bb = x.bb) ∧ 
 (x.sb = x.sb ∧ Off.lit 0 = Off.lit 0) ∧ 
 ((x2.1.pos : Int) = (x3.1.pos : Int)) ∧ 
 (x2.1.bv = x3.1.bv ∧ x2.1.bn = x3.1.bn) ∧ 
 ((512 : Nat) = (512 : Nat) ∧ x2.1.arr = x3.1.arr) ∧ 
 (bx = bx ∧ putAt l 0 (List.take x2.2 (List.drop (RS.P x / (8 : Nat)) x.bs)) = Prod.snd (x3.2.2)) ∧ 
 (True))))))))
noncomputable def law_c145 (G : Gl) (P : Nat) (x : RS) (bx : Value) (l : List Int) : VCT := fnx (CH G 4) (INH G 4 (b145 G) NA) (a145 x bx l) Tryz.f145 ((c145 G P).args (x, bx, l)) ((c145 G P).H (x, bx, l)) (outK true 6 ((c145 G P).ret (x, bx, l))) ((c145 G P).pan (x, bx, l))
theorem eq_c145 (G : Gl) (P : Nat) (x : RS) (bx : Value) (l : List Int) : cond_c145 G P x bx l = (law_c145 G P x bx l).den := by kernel_rfl
theorem ok_c145 (G : Gl) (P : Nat) (x : RS) (bx : Value) (l : List Int) (h : c145OK x l) : cond_c145 G P x bx l := by
  unfold cond_c145
  have e3 : ∀ l : List Nat, nats (ints l) = l := nats_ints
  have hlen : ∀ n, n ≤ l.length → x.P + 8 * n ≤ 8 * x.bs.length → (putAt l 0 (List.take n (List.drop (x.P / 8) x.bs))).length = l.length := fun n h1 h2 => putAt_len h1 (by rw [List.length_drop]; omega)
  simp only [e3, br_d, rel_self, true_and, and_true, inI64, Int.toNat_natCast]
  have hP := h.al
  have h300 := h.w.len
  refine ⟨fun h0 => absurd h0 (by omega), fun _ => ⟨(⟨x.off, x.bits, x.num, x.pk, x.pkn, x.dis, x.fed, x.pos, x.bv, x.bn, x.arr, x.prev⟩, 0), ⟨h.w, h.ok, by have := h.w.end_; omega, Nat.zero_le _⟩, rfl, rfl, rfl, rfl, ⟨rfl, rfl⟩, rfl, rfl, rfl, rfl, rfl, ⟨rfl, rfl⟩, rfl, by rw [List.take_zero, putAt_nil], fun y hy => ?_⟩⟩
  have hle := hy.le
  have hal := hy.all
  have hl := hlen y.2 hle hal
  refine ⟨fun h1 => ⟨⟨hl.symm, by omega, by omega, Int.le_refl _⟩, x.P + 8 * y.2, fun m => ⟨at145_ok hy hP m hl, fun u hu => ?_, fun u hu => ?_⟩⟩, fun h1 => ?_⟩
  · have hn := at145_next hy hu rfl
    have h2 := hu.some_ (by show y.2 < l.length; omega)
    have h3 := hn.all
    have h4 := hn.le
    refine ⟨by omega, (u.1, y.2 + u.2), ⟨hn, by dsimp only; omega⟩, by dsimp only; omega, rfl, rfl, rfl, ⟨rfl, rfl⟩, rfl, rfl, rfl, rfl, rfl, ⟨rfl, rfl⟩, rfl, ?_⟩
    have := putAt_put (l := l) (D := x.bs.drop (x.P / 8)) (n := y.2) (k := u.2) (by omega) (by rw [List.length_drop]; omega)
    rw [List.drop_drop] at this
    rw [show (x.P + 8 * y.2) / 8 = x.P / 8 + y.2 by omega]
    exact this
  · refine ⟨by omega, fun h2 => ⟨fun h3 => absurd h3 (by omega), fun h3 => ?_⟩, fun h2 => absurd h1 (by omega)⟩
    exact ⟨fun _ => .inr ⟨(u, y.2, G.U, _), at145_eof hy (by omega) hu, Int.add_zero _, rfl, rfl, rfl, rfl, ⟨rfl, rfl⟩, rfl, rfl, rfl, rfl, rfl, ⟨rfl, rfl⟩, rfl, rfl⟩, fun _ => .inr ⟨(u, y.2, G.E, _), at145_eof hy (by omega) hu, Int.add_zero _, rfl, rfl, rfl, rfl, ⟨rfl, rfl⟩, rfl, rfl, rfl, rfl, rfl, ⟨rfl, rfl⟩, rfl, rfl⟩⟩
  · have e : y.2 = l.length := by omega
    refine ⟨fun _ => .inl ⟨y.1, ⟨e ▸ hy.w, fun h0 => e ▸ hy.ok h0, e ▸ hy.all⟩, by rw [e], rfl, rfl, rfl, ⟨rfl, rfl⟩, rfl, rfl, rfl, rfl, rfl, ⟨rfl, rfl⟩, rfl, ?_⟩, fun h2 => absurd h1 (by omega)⟩
    rw [e]
    exact putAt_all (by rw [List.length_drop]; omega)
theorem b145_ok (G : Gl) : ∀ f pt, b145 G f = some pt → SpecOK (CC G) f pt := by
  intro f pt h
  unfold b145 at h
  split at h
  · cases h; exact exPT_ok 0 fun P => loc_ok (s230 G P) _
  · cases h
theorem s145 (G : Gl) (P : Nat) : SpecOK (CC G) 145 (c145 G P).pt := specH G 4 (b145_ok G) (fn := Tryz.f145) rfl NA (c145 G P) (fun x => a145 x.1 x.2.1 x.2.2) fun ⟨x, bx, l⟩ h => Met.of (eq_c145 G P x bx l) (ok_c145 G P x bx l h)
end Pc
