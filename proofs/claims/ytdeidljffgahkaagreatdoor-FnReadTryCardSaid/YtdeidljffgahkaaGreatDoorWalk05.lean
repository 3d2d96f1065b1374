/-
  ReadOffset does what its contract says.
-/
import Derived.Test.YtdeidljffgahkaaGreatDoorWalk04
set_option linter.unusedVariables false
set_option maxRecDepth 100000
open Go Go.Vg Go.Proofs
namespace Pc
def cond_c106 (G : Gl) (P : Nat) (lens : List Nat) (x : RS) (d : DC) (rv : Value) (ex : List Nat) : Prop :=
 ∃ x1 : (Nat), ∀ x2 : (Nat → Option Obj), (rsOK (RS.mk x2 x.rel x.rb x.sb x.bb x.vs (nats (ints x.bs)) x.big x1 (Int.toNat (x.off : Int)) (Int.toNat (x.bits : Int)) (Int.toNat (x.num : Int)) x.pk x.pkn x.dis (Int.toNat (x.fed : Int)) (Int.toNat (x.pos : Int)) x.bv x.bn x.arr x.prev) ∧ decOK x.rel lens (DC.mk (DC.db d) (DC.cv d) (nats (ints (DC.ch d))) (DC.lv d) (DC.lk d) (Int.toNat (↑(DC.cm d) : Int)) (Int.toNat (↑(DC.lm d) : Int)) (Int.toNat (↑(DC.cb d) : Int)) (Int.toNat (↑(DC.mb d) : Int)) (Int.toNat (↑(DC.ns d) : Int)))) ∧ 
 (x.rb = x.rb ∧ Off.lit 0 = Off.lit 0) ∧ 
 (DC.db d = DC.db d ∧ Off.lit 0 = Off.lit 0) ∧ 
 (x2 = x2) ∧ 
 (relLe x.rel x.rel) ∧ 
 (x.rb = x.rb) ∧ 
 ((x.off : Int) = (↑(Int.toNat (x.off : Int)) : Int)) ∧ 
 (x.sb = x.sb ∧ Off.lit 0 = Off.lit 0) ∧ 
 (Value.nilIface = Value.nilIface) ∧ (x.bb = x.bb ∧ Off.lit 0 = Off.lit 0) ∧ 
 ((x.bits : Int) = (↑(Int.toNat (x.bits : Int)) : Int)) ∧ 
 ((x.num : Int) = (↑(Int.toNat (x.num : Int)) : Int)) ∧ 
 (x.big = x.big) ∧ 
 (x.pk = x.pk ∧ x.pkn = x.pkn) ∧ 
 (x.dis = x.dis) ∧ 
 ((x.fed : Int) = (↑(Int.toNat (x.fed : Int)) : Int)) ∧ 
 (Value.pointer none = Value.pointer none) ∧ (x.bb = x.bb ∧ Off.lit 0 = Off.lit 0) ∧ 
 (Value.pointer none = Value.pointer none) ∧ (x.sb = x.sb) ∧ 
 (x.vs = x.vs ∧ ints x.bs = ints (nats (ints x.bs))) ∧ 
 ((x.off : Int) = (↑(Int.toNat (x.off : Int)) : Int)) ∧ 
 (x.prev = x.prev) ∧ 
 (x.bb = x.bb) ∧ 
 (x.sb = x.sb ∧ Off.lit 0 = Off.lit 0) ∧ 
 ((x.pos : Int) = (↑(Int.toNat (x.pos : Int)) : Int)) ∧ 
 (x.bv = x.bv ∧ x.bn = x.bn) ∧ 
 ((512 : Nat) = (512 : Nat) ∧ x.arr = x.arr) ∧ 
 (DC.db d = DC.db d) ∧ 
 (DC.cv d = DC.cv d ∧ ints (DC.ch d) = ints (nats (ints (DC.ch d)))) ∧ 
 (DC.lv d = DC.lv d ∧ DC.lk d = DC.lk d) ∧ 
 ((↑(DC.cm d) : Int) = (↑(Int.toNat (↑(DC.cm d) : Int)) : Int)) ∧ 
 ((↑(DC.lm d) : Int) = (↑(Int.toNat (↑(DC.lm d) : Int)) : Int)) ∧ 
 ((↑(DC.cb d) : Int) = (↑(Int.toNat (↑(DC.cb d) : Int)) : Int)) ∧ 
 ((↑(DC.mb d) : Int) = (↑(Int.toNat (↑(DC.mb d) : Int)) : Int)) ∧ 
 ((↑(DC.ns d) : Int) = (↑(Int.toNat (↑(DC.ns d) : Int)) : Int)) ∧ 
 (∀ x3 : (RV), ((took (RS.mk x2 x.rel x.rb x.sb x.bb x.vs (nats (ints x.bs)) x.big x1 (Int.toNat (x.off : Int)) (Int.toNat (x.bits : Int)) (Int.toNat (x.num : Int)) x.pk x.pkn x.dis (Int.toNat (x.fed : Int)) (Int.toNat (x.pos : Int)) x.bv x.bn x.arr x.prev) (cl lens (RS.W (RS.mk x2 x.rel x.rb x.sb x.bb x.vs (nats (ints x.bs)) x.big x1 (Int.toNat (x.off : Int)) (Int.toNat (x.bits : Int)) (Int.toNat (x.num : Int)) x.pk x.pkn x.dis (Int.toNat (x.fed : Int)) (Int.toNat (x.pos : Int)) x.bv x.bn x.arr x.prev))) x3) → 
 (x2 = x2) ∧ 
 (inRange (↑(cd lens (RS.W (RS.mk x2 x.rel x.rb x.sb x.bb x.vs (nats (ints x.bs)) x.big x1 (Int.toNat (x.off : Int)) (Int.toNat (x.bits : Int)) (Int.toNat (x.num : Int)) x.pk x.pkn x.dis (Int.toNat (x.fed : Int)) (Int.toNat (x.pos : Int)) x.bv x.bn x.arr x.prev))) : Int) (List.length (rgL 0 ex))) ∧ 
 (Int.toNat (↑(cd lens (RS.W (RS.mk x2 x.rel x.rb x.sb x.bb x.vs (nats (ints x.bs)) x.big x1 (Int.toNat (x.off : Int)) (Int.toNat (x.bits : Int)) (Int.toNat (x.num : Int)) x.pk x.pkn x.dis (Int.toNat (x.fed : Int)) (Int.toNat (x.pos : Int)) x.bv x.bn x.arr x.prev))) : Int) < List.length (rgL 0 ex)) ∧ 
 ∀ x4 : (Rg), (((rgL 0 ex)[Int.toNat (↑(cd lens (RS.W (RS.mk x2 x.rel x.rb x.sb x.bb x.vs (nats (ints x.bs)) x.big x1 (Int.toNat (x.off : Int)) (Int.toNat (x.bits : Int)) (Int.toNat (x.num : Int)) x.pk x.pkn x.dis (Int.toNat (x.fed : Int)) (Int.toNat (x.pos : Int)) x.bv x.bn x.arr x.prev))) : Int)]? = some x4) → 
 ∀ x5 : (Nat), (x5 = x5) ∧ (x5 = x5) ∧ (x5 = x5) ∧ ∃ x6 : (Nat), ∀ x7 : (Nat → Option Obj), (rsOK (RS.mk x7 x.rel x.rb x.sb x.bb x.vs (nats (ints (nats (ints x.bs)))) x.big x6 (Int.toNat (x3.off : Int)) (Int.toNat (x3.bits : Int)) (Int.toNat (x3.num : Int)) x3.pk x3.pkn x3.dis (Int.toNat (x3.fed : Int)) (Int.toNat (x3.pos : Int)) x3.bv x3.bn x3.arr x3.prev) ∧ Int.toNat (IntKind.wrap IntKind.u64 x4.len) ≤ (56 : Nat)) ∧ 
 (x.rb = x.rb ∧ Off.lit 0 = Off.lit 0) ∧ 
 (IntKind.wrap IntKind.u64 x4.len = (↑(Int.toNat (IntKind.wrap IntKind.u64 x4.len)) : Int)) ∧ 
 (x7 = x7) ∧ 
 (relLe x.rel x.rel) ∧ 
 (x.rb = x.rb) ∧ 
 ((x3.off : Int) = (↑(Int.toNat (x3.off : Int)) : Int)) ∧ 
 (x.sb = x.sb ∧ Off.lit 0 = Off.lit 0) ∧ 
 (Value.nilIface = Value.nilIface) ∧ (x.bb = x.bb ∧ Off.lit 0 = Off.lit 0) ∧ 
 ((x3.bits : Int) = (↑(Int.toNat (x3.bits : Int)) : Int)) ∧ 
 ((x3.num : Int) = (↑(Int.toNat (x3.num : Int)) : Int)) ∧ 
 (x.big = x.big) ∧ 
 (x3.pk = x3.pk ∧ x3.pkn = x3.pkn) ∧ 
 (x3.dis = x3.dis) ∧ 
 ((x3.fed : Int) = (↑(Int.toNat (x3.fed : Int)) : Int)) ∧ 
 (Value.pointer none = Value.pointer none) ∧ (x.bb = x.bb ∧ Off.lit 0 = Off.lit 0) ∧ 
 (Value.pointer none = Value.pointer none) ∧ (x.sb = x.sb) ∧ 
 (x.vs = x.vs ∧ ints (nats (ints x.bs)) = ints (nats (ints (nats (ints x.bs))))) ∧ 
 ((x3.off : Int) = (↑(Int.toNat (x3.off : Int)) : Int)) ∧ 
 (x3.prev = x3.prev) ∧ 
 (x.bb = x.bb) ∧ 
 (x.sb = x.sb ∧ Off.lit 0 = Off.lit 0) ∧ 
 ((x3.pos : Int) = (↑(Int.toNat (x3.pos : Int)) : Int)) ∧ 
 (x3.bv = x3.bv ∧ x3.bn = x3.bn) ∧ 
 ((512 : Nat) = (512 : Nat) ∧ x3.arr = x3.arr) ∧ 
 (∀ x8 : (RV), ((took (RS.mk x7 x.rel x.rb x.sb x.bb x.vs (nats (ints (nats (ints x.bs)))) x.big x6 (Int.toNat (x3.off : Int)) (Int.toNat (x3.bits : Int)) (Int.toNat (x3.num : Int)) x3.pk x3.pkn x3.dis (Int.toNat (x3.fed : Int)) (Int.toNat (x3.pos : Int)) x3.bv x3.bn x3.arr x3.prev) (Int.toNat (IntKind.wrap IntKind.u64 x4.len)) x8) → 
 (x7 = x7) ∧ 
 (SV.toV (T := TT) (SV.p 6 x5 (Off.add (Off.lit 0) 0)) = SV.toV (T := TT) (SV.p 6 x5 (Off.lit 0))) ∧ 
 (x5 = x5) ∧ (SV.toV (T := TT) (SV.v (Value.int IntKind.u32 x4.base)) = SV.toV (T := TT) (SV.v (Value.int IntKind.u32 x4.base))) ∧ (SV.toV (T := TT) (SV.v (Value.int IntKind.u64 (IntKind.wrap IntKind.u64 x4.base))) = SV.toV (T := TT) (SV.v (Value.int IntKind.u64 (IntKind.wrap IntKind.u64 x4.base)))) ∧ ∃ x9 : (RV), (took x (cl lens (RS.W x) + List.getD ex (cd lens (RS.W x)) 0) x9) ∧ 
 (IntKind.wrap IntKind.u64 (IntKind.wrap IntKind.u64 x4.base + (↑(RS.W (RS.mk x7 x.rel x.rb x.sb x.bb x.vs (nats (ints (nats (ints x.bs)))) x.big x6 (Int.toNat (x3.off : Int)) (Int.toNat (x3.bits : Int)) (Int.toNat (x3.num : Int)) x3.pk x3.pkn x3.dis (Int.toNat (x3.fed : Int)) (Int.toNat (x3.pos : Int)) x3.bv x3.bn x3.arr x3.prev) % (2 : Nat) ^ Int.toNat (IntKind.wrap IntKind.u64 x4.len)) : Int)) = (↑(sum2 (List.take (cd lens (RS.W x)) ex) + RS.W x / (2 : Nat) ^ cl lens (RS.W x) % (2 : Nat) ^ List.getD ex (cd lens (RS.W x)) 0) : Int)) ∧ 
 (x.m = x.m) ∧ 
 (relLe x.rel x.rel) ∧ 
 (x.rb = x.rb) ∧ 
 ((x8.off : Int) = (x9.off : Int)) ∧ 
 (x.sb = x.sb ∧ Off.lit 0 = Off.lit 0) ∧ 
 (Value.nilIface = Value.nilIface) ∧ (x.bb = x.bb ∧ Off.lit 0 = Off.lit 0) ∧ 
 ((x8.bits : Int) = (x9.bits : Int)) ∧ 
 ((x8.num : Int) = (x9.num : Int)) ∧ 
 (x.big = x.big) ∧ 
 (x8.pk = x9.pk ∧ x8.pkn = x9.pkn) ∧ 
 (x8.dis = x9.dis) ∧ 
 ((x8.fed : Int) = (x9.fed : Int)) ∧ 
 (Value.pointer none = Value.pointer none) ∧ (x.bb = x.bb ∧ Off.lit 0 = Off.lit 0) ∧ 
 (Value.pointer none = Value.pointer none) ∧ (x.sb = x.sb) ∧ 
 (x.vs = x.vs ∧ ints (nats (ints (nats (ints x.bs)))) = ints x.bs) ∧ 
 ((x8.off : Int) = (x9.off : Int)) ∧ 
 (x8.prev = x9.prev) ∧ 
 (x.bb = x.bb) ∧ 
 (x.sb = x.sb ∧ Off.lit 0 = Off.lit 0) ∧ 
 ((x8.pos : Int) = (x9.pos : Int)) ∧ 
 (x8.bv = x9.bv ∧ x8.bn = x9.bn) ∧ 
 ((512 : Nat) = (512 : Nat) ∧ x8.arr = x9.arr) ∧ 
 (DC.db d = DC.db d) ∧ 
 (DC.cv d = DC.cv d ∧ ints (nats (ints (DC.ch d))) = ints (DC.ch d)) ∧ 
 (DC.lv d = DC.lv d ∧ DC.lk d = DC.lk d) ∧ 
 ((↑(Int.toNat (↑(DC.cm d) : Int)) : Int) = (↑(DC.cm d) : Int)) ∧ 
 ((↑(Int.toNat (↑(DC.lm d) : Int)) : Int) = (↑(DC.lm d) : Int)) ∧ 
 ((↑(Int.toNat (↑(DC.cb d) : Int)) : Int) = (↑(DC.cb d) : Int)) ∧ 
 ((↑(Int.toNat (↑(DC.mb d) : Int)) : Int) = (↑(DC.mb d) : Int)) ∧ 
 ((↑(Int.toNat (↑(DC.ns d) : Int)) : Int) = (↑(DC.ns d) : Int)) ∧ 
 (True))) ∧
 (∀ x8 : (RV × Nat), ((lacks (RS.mk x7 x.rel x.rb x.sb x.bb x.vs (nats (ints (nats (ints x.bs)))) x.big x6 (Int.toNat (x3.off : Int)) (Int.toNat (x3.bits : Int)) (Int.toNat (x3.num : Int)) x3.pk x3.pkn x3.dis (Int.toNat (x3.fed : Int)) (Int.toNat (x3.pos : Int)) x3.bv x3.bn x3.arr x3.prev) (Int.toNat (IntKind.wrap IntKind.u64 x4.len)) x8.1) → 
 (x7 = x7) ∧ 
 ((∃ x9 : (RV × Nat), (ends1 x lens x9.1) ∧ 
 False /- "match: another entry" -/) ∨
 (∃ x9 : (RV × Nat × Nat × Int × Int), (ends2 x lens ex x9.1) ∧ 
 (x8.2 = x9.2.1 ∧ Off.lit 0 = Off.lit 0) ∧ 
 (x.m = x.m) ∧ 
 (relLe x.rel x.rel) ∧ 
 (x.rb = x.rb) ∧ 
 ((x8.1.off : Int) = (x9.1.off : Int)) ∧ 
 (x.sb = x.sb ∧ Off.lit 0 = Off.lit 0) ∧ 
 (Value.nilIface = Value.nilIface) ∧ (x.bb = x.bb ∧ Off.lit 0 = Off.lit 0) ∧ 
 ((x8.1.bits : Int) = (x9.1.bits : Int)) ∧ 
 ((x8.1.num : Int) = (x9.1.num : Int)) ∧ 
 (x.big = x.big) ∧ 
 (x8.1.pk = x9.1.pk ∧ x8.1.pkn = x9.1.pkn) ∧ 
 (x8.1.dis = x9.1.dis) ∧ 
 ((x8.1.fed : Int) = (x9.1.fed : Int)) ∧ 
 (Value.pointer none = Value.pointer none) ∧ (x.bb = x.bb ∧ Off.lit 0 = Off.lit 0) ∧ 
 (Value.pointer none = Value.pointer none) ∧ (x.sb = x.sb) ∧ 
 (x.vs = x.vs ∧ ints (nats (ints (nats (ints x.bs)))) = ints x.bs) ∧ 
 ((x8.1.off : Int) = (x9.1.off : Int)) ∧ 
 (x8.1.prev = x9.1.prev) ∧ 
 (x.bb = x.bb) ∧ 
 (x.sb = x.sb ∧ Off.lit 0 = Off.lit 0) ∧ 
 ((x8.1.pos : Int) = (x9.1.pos : Int)) ∧ 
 (x8.1.bv = x9.1.bv ∧ x8.1.bn = x9.1.bn) ∧ 
 ((512 : Nat) = (512 : Nat) ∧ x8.1.arr = x9.1.arr) ∧ 
 (DC.db d = DC.db d) ∧ 
 (DC.cv d = DC.cv d ∧ ints (nats (ints (DC.ch d))) = ints (DC.ch d)) ∧ 
 (DC.lv d = DC.lv d ∧ DC.lk d = DC.lk d) ∧ 
 ((↑(Int.toNat (↑(DC.cm d) : Int)) : Int) = (↑(DC.cm d) : Int)) ∧ 
 ((↑(Int.toNat (↑(DC.lm d) : Int)) : Int) = (↑(DC.lm d) : Int)) ∧ 
 ((↑(Int.toNat (↑(DC.cb d) : Int)) : Int) = (↑(DC.cb d) : Int)) ∧ 
 ((↑(Int.toNat (↑(DC.mb d) : Int)) : Int) = (↑(DC.mb d) : Int)) ∧ 
 ((↑(Int.toNat (↑(DC.ns d) : Int)) : Int) = (↑(DC.ns d) : Int)) ∧ 
 (x5 = Prod.fst (x9.2.2)) ∧ 
 (x4.base = Prod.fst (Prod.snd (x9.2.2))) ∧ 
 (x4.len = Prod.snd (Prod.snd (x9.2.2))) ∧ 
 (x8.2 = x9.2.1) ∧ 
 (errV (Gl.U G) = errV (Gl.U G)) ∧ (True)))))))) ∧
 (∀ x3 : (RV × Nat), ((lacks (RS.mk x2 x.rel x.rb x.sb x.bb x.vs (nats (ints x.bs)) x.big x1 (Int.toNat (x.off : Int)) (Int.toNat (x.bits : Int)) (Int.toNat (x.num : Int)) x.pk x.pkn x.dis (Int.toNat (x.fed : Int)) (Int.toNat (x.pos : Int)) x.bv x.bn x.arr x.prev) (cl lens (RS.W (RS.mk x2 x.rel x.rb x.sb x.bb x.vs (nats (ints x.bs)) x.big x1 (Int.toNat (x.off : Int)) (Int.toNat (x.bits : Int)) (Int.toNat (x.num : Int)) x.pk x.pkn x.dis (Int.toNat (x.fed : Int)) (Int.toNat (x.pos : Int)) x.bv x.bn x.arr x.prev))) x3.1) → 
 (x2 = x2) ∧ 
 ((∃ x4 : (RV × Nat), (ends1 x lens x4.1) ∧ 
 (x3.2 = x4.2 ∧ Off.lit 0 = Off.lit 0) ∧ 
 (x.m = x.m) ∧ 
 (relLe x.rel x.rel) ∧ 
 (x.rb = x.rb) ∧ 
 ((x3.1.off : Int) = (x4.1.off : Int)) ∧ 
 (x.sb = x.sb ∧ Off.lit 0 = Off.lit 0) ∧ 
 (Value.nilIface = Value.nilIface) ∧ (x.bb = x.bb ∧ Off.lit 0 = Off.lit 0) ∧ 
 ((x3.1.bits : Int) = (x4.1.bits : Int)) ∧ 
 ((x3.1.num : Int) = (x4.1.num : Int)) ∧ 
 (x.big = x.big) ∧ 
 (x3.1.pk = x4.1.pk ∧ x3.1.pkn = x4.1.pkn) ∧ 
 (x3.1.dis = x4.1.dis) ∧ 
 ((x3.1.fed : Int) = (x4.1.fed : Int)) ∧ 
 (Value.pointer none = Value.pointer none) ∧ (x.bb = x.bb ∧ Off.lit 0 = Off.lit 0) ∧ 
 (Value.pointer none = Value.pointer none) ∧ (x.sb = x.sb) ∧ 
 (x.vs = x.vs ∧ ints (nats (ints x.bs)) = ints x.bs) ∧ 
 ((x3.1.off : Int) = (x4.1.off : Int)) ∧ 
 (x3.1.prev = x4.1.prev) ∧ 
 (x.bb = x.bb) ∧ 
 (x.sb = x.sb ∧ Off.lit 0 = Off.lit 0) ∧ 
 ((x3.1.pos : Int) = (x4.1.pos : Int)) ∧ 
 (x3.1.bv = x4.1.bv ∧ x3.1.bn = x4.1.bn) ∧ 
 ((512 : Nat) = (512 : Nat) ∧ x3.1.arr = x4.1.arr) ∧ 
 (DC.db d = DC.db d) ∧ 
 (DC.cv d = DC.cv d ∧ ints (nats (ints (DC.ch d))) = ints (DC.ch d)) ∧ 
 (DC.lv d = DC.lv d ∧ DC.lk d = DC.lk d) ∧ 
 ((↑(Int.toNat (↑(DC.cm d) : Int)) : Int) = (↑(DC.cm d) : Int)) ∧ 
 ((↑(Int.toNat (↑(DC.lm d) : Int)) : Int) = (↑(DC.lm d) : Int)) ∧ 
 ((↑(Int.toNat (↑(DC.cb d) : Int)) : Int) = (↑(DC.cb d) : Int)) ∧ 
 ((↑(Int.toNat (↑(DC.mb d) : Int)) : Int) = (↑(DC.mb d) : Int)) ∧ 
 ((↑(Int.toNat (↑(DC.ns d) : Int)) : Int) = (↑(DC.ns d) : Int)) ∧ 
 (x3.2 = x4.2) ∧ 
 (errV (Gl.U G) = errV (Gl.U G)) ∧ (True)) ∨
 (∃ x4 : (RV × Nat × Nat × Int × Int), (ends2 x lens ex x4.1) ∧ 
 False /- "match: another entry" -/))))
noncomputable def law_c106 (G : Gl) (P : Nat) (lens : List Nat) (x : RS) (d : DC) (rv : Value) (ex : List Nat) : VCT := fnx (CH G 4) (INH G 4 (b106 G lens) NA) noAnn Tryz.f106 ((c106 G P lens).args (x, d, rv, ex)) ((c106 G P lens).H (x, d, rv, ex)) (outK true 6 ((c106 G P lens).ret (x, d, rv, ex))) ((c106 G P lens).pan (x, d, rv, ex))
theorem eq_c106 (G : Gl) (P : Nat) (lens : List Nat) (x : RS) (d : DC) (rv : Value) (ex : List Nat) : cond_c106 G P lens x d rv ex = (law_c106 G P lens x d rv ex).den := by kernel_rfl
theorem ok_c106 (G : Gl) (P : Nat) (lens : List Nat) (x : RS) (d : DC) (rv : Value) (ex : List Nat) (h : c106OK x lens d ex) : cond_c106 G P lens x d rv ex := by
  unfold cond_c106
  have e3 : ∀ l : List Nat, nats (ints l) = l := nats_ints
  have hcl := cl_pos h.dec.good x.W
  simp only [e3, rel_self, true_and, and_true, inRange, Int.toNat_natCast, rgL_len]
  refine ⟨x.P, fun m => ⟨⟨rs_m h.ok rfl, h.dec⟩, fun v hv => ?_, fun v hv => .inl ⟨v, ⟨hv.all, rs_m hv.ok rfl⟩, rfl, rfl, rfl, rfl, ⟨rfl, rfl⟩, rfl, rfl, rfl, rfl, rfl, ⟨rfl, rfl⟩, rfl, rfl⟩⟩⟩
  have hall : x.P + cl lens x.W ≤ 8 * x.bs.length := hv.all
  have hok : rsOK (x.adv v (cl lens x.W)) := rs_m hv.ok rfl
  have hhas : cd lens x.W < ex.length := h.has (by omega)
  have hW : numL (bitsOf x.big x.bs) / 2 ^ (x.P + cl lens x.W) = x.W / 2 ^ cl lens x.W := by
    unfold RS.W
    rw [Nat.div_div_eq_div_mul, ← Nat.pow_add]
  refine ⟨⟨Int.natCast_nonneg _, Int.ofNat_lt.2 hhas⟩, hhas, fun r hr b => ⟨x.P + cl lens x.W, fun m2 => ?_⟩⟩
  obtain ⟨n, hn, rfl⟩ := rgL_sum hr
  have hn : ex[cd lens x.W]? = some n := hn
  have hn20 := h.small n (List.mem_of_getElem? hn)
  have hex : ex.getD (cd lens x.W) 0 = n := by rw [List.getD_eq_getElem?_getD, hn]; rfl
  have hs1 := sum2_le (ex.take (cd lens x.W)) fun z hz => h.small z (List.mem_of_mem_take hz)
  have hl30 := h.len
  have hs2 : (ex.take (cd lens x.W)).length * 2 ^ 20 ≤ 30 * 2 ^ 20 := Nat.mul_le_mul_right _ (by rw [List.length_take]; omega)
  have hw1 : IntKind.u64.wrap (n : Int) = (n : Int) := by rw [wr64]; omega
  simp only [hw1, Int.toNat_natCast, hex]
  refine ⟨⟨rs_m hok rfl, by omega⟩, trivial, fun u hu => ⟨rfl, u, ?_, ?_, rfl, rfl, rfl, ⟨rfl, rfl⟩, rfl, rfl, rfl, rfl, rfl, ⟨rfl, rfl⟩, rfl⟩, fun u hu => .inr ⟨(u.1, u.2, b, _, _), ?_, rfl, rfl, rfl, rfl, ⟨rfl, rfl⟩, rfl, rfl, rfl, rfl, rfl, ⟨rfl, rfl⟩, rfl, rfl, rfl, rfl, rfl⟩⟩
  · have h1 : rsOK (x.adv u (cl lens x.W + n)) := by
      refine rs_m hu.ok ?_
      unfold RS.adv RS.put
      simp only [Nat.add_assoc]
    have h2 : x.P + cl lens x.W + n ≤ 8 * x.bs.length := hu.all
    exact ⟨h1, by omega⟩
  · have hp := Nat.mod_lt (x.W / 2 ^ cl lens x.W) (show 0 < 2 ^ n from Nat.pow_pos (by decide))
    have hp2 : (2 : Nat) ^ n ≤ 2 ^ 20 := Nat.pow_le_pow_right (by decide) hn20
    have hW2 : RS.W { m := m2, rel := x.rel, rb := x.rb, sb := x.sb, bb := x.bb, vs := x.vs, bs := x.bs, big := x.big, P := x.P + cl lens x.W, off := v.off, bits := v.bits, num := v.num, pk := v.pk, pkn := v.pkn, dis := v.dis, fed := v.fed, pos := v.pos, bv := v.bv, bn := v.bn, arr := v.arr, prev := v.prev } = x.W / 2 ^ cl lens x.W := hW
    rw [hW2]
    have hcd : cd lens (RS.W { m := m, rel := x.rel, rb := x.rb, sb := x.sb, bb := x.bb, vs := x.vs, bs := x.bs, big := x.big, P := x.P, off := x.off, bits := x.bits, num := x.num, pk := x.pk, pkn := x.pkn, dis := x.dis, fed := x.fed, pos := x.pos, bv := x.bv, bn := x.bn, arr := x.arr, prev := x.prev }) = cd lens x.W := rfl
    rw [hcd]
    rw [wr64, wr64]; omega
  · have h2 : 8 * x.bs.length < x.P + cl lens x.W + n := hu.all
    refine ⟨hall, ⟨cl lens x.W, rs_m hu.ok rfl⟩, ?_⟩
    rw [hex]; omega
theorem b106_ok (G : Gl) (lens : List Nat) : ∀ f pt, b106 G lens f = some pt → SpecOK (CC G) f pt := by
  intro f pt h
  unfold b106 at h
  split at h
  · cases h; exact exPT_ok 0 fun P => loc_ok (s105 G P lens) _
  · cases h; exact exPT_ok 0 fun P => loc_ok (s103 G P) _
  · cases h
theorem s106 (G : Gl) (P : Nat) (lens : List Nat) : SpecOK (CC G) 106 (c106 G P lens).pt := specH G 4 (b106_ok G lens) (fn := Tryz.f106) rfl NA (c106 G P lens) (fun _ => noAnn) fun ⟨x, d, rv, ex⟩ h => Met.of (eq_c106 G P lens x d rv ex) (ok_c106 G P lens x d rv ex h)
end Pc
/-
  What readParts calls.
-/
set_option linter.unusedVariables false
set_option maxRecDepth 100000
open Go Go.Vg Go.Proofs
namespace Pc
theorem b53_ok (G : Gl) (lens : List Nat) : ∀ f pt, b53 G lens f = some pt → SpecOK (CC G) f pt := by
  intro f pt h
  unfold b53 at h
  split at h
  · cases h; exact loc_ok (s62 G) _
  · cases h; exact loc_ok (s64 G) _
  · cases h; exact loc_ok (s100 G) _
  · cases h; exact exPT_ok 0 fun P => loc_ok (s103 G P) _
  · cases h; exact exPT_ok 0 fun P => loc_ok (s105 G P lens) _
  · cases h; exact exPT_ok 0 fun P => loc_ok (s106 G P lens) _
  · cases h; exact exPT_ok 0 fun P => loc_ok (s107 G P) _
  · cases h; exact exPT_ok 0 fun P => loc_ok (s109 G P) _
  · cases h; exact exPT_ok 0 fun P => loc_ok (s145 G P) _
  · cases h
end Pc
/-
  readParts, where bits and symbols are tried first, does what its contract says.
-/
set_option linter.unusedVariables false
set_option maxRecDepth 100000
open Go Go.Vg Go.Proofs
namespace Pc
def cond_c53t (G : Gl) (lens : List Nat) (x : RS) (vl : Value) (l : List Pt) (vc : Value) (vr : Value) (extra : List Nat) : Prop :=
 ∀ x1 : (Nat), ∀ x2 : (Nat), ∀ x3 : (Nat), ∀ x4 : (Nat), ∀ x5 : (Nat), ∀ x6 : (Nat), ∀ x7 : (Nat), (x2 = x2) ∧ Br (decide ((↑(List.length (canonL lens)) : Int) > (0 : Int)))
 ((x2 = x2) ∧ ∀ x8 : (Nat → Option Obj), (List.length (lensOf (canonL lens)) ≤ (60 : Nat)) ∧ 
 (vc = vc ∧ canonL lens = canonL (lensOf (canonL lens))) ∧ 
 (x8 = x8) ∧ 
 (relLe x.rel x.rel) ∧ 
 ∀ x9 : (Value), ((True) → 
 (x8 = x8) ∧ 
 ∀ x10 : (Nat → Option Obj), (Good (lensOf (canonL (lensOf (canonL lens))))) ∧ 
 (x5 = x5 ∧ Off.lit 0 = Off.lit 0) ∧ 
 (x9 = x9 ∧ canonL (lensOf (canonL lens)) = canonL (lensOf (canonL (lensOf (canonL lens))))) ∧ 
 (x10 = x10) ∧ 
 (relLe x.rel x.rel) ∧ 
 (x5 = x5) ∧ 
 (Value.slice none 0 0 = Value.slice none 0 0) ∧ (Value.slice none 0 0 = Value.slice none 0 0) ∧ ((0 : Int) = (0 : Int)) ∧ ((0 : Int) = (0 : Int)) ∧ ((0 : Int) = (0 : Int)) ∧ ((0 : Int) = (0 : Int)) ∧ ((0 : Int) = (0 : Int)) ∧ ∀ x11 : (DC × Rel TT), ((relLe x.rel x11.2 ∧ decOK x11.2 (lensOf (canonL (lensOf (canonL lens)))) x11.1) → 
 (x10 = x10) ∧ 
 (x3 = x3) ∧ ∀ x12 : (Nat → Option Obj), (List.length (extraOf (rgL 0 extra)) ≤ (30 : Nat)) ∧ 
 (vr = vr ∧ rgL 0 extra = rgL 0 (extraOf (rgL 0 extra))) ∧ 
 (x12 = x12) ∧ 
 (relLe x11.2 x11.2) ∧ 
 ∀ x13 : (Value), ((True) → 
 (x12 = x12) ∧ 
 (x6 = x6) ∧ (x7 = x7) ∧ (x7 = x7) ∧ (x7 = x7) ∧ ∃ x14 : (Y53), (ph53 lens (X53.mk x vl l vc vr extra) (noteS (SV.segs (SV.ro 215 x13 (rgL 0 (extraOf (rgL 0 extra))))) x11.2) x14) ∧ 
 (Value.slice none 0 0 = x14.gx ∧ (0 : Nat) = List.length x14.gl) ∧ 
 ((0 : Int) = (x14.i : Int)) ∧ 
 ((0 : Int) = (↑(Y53.P x14) : Int)) ∧ 
 (x.m = x.m) ∧ (relLe x14.rel (noteS (SV.segs (SV.ro 215 x13 (rgL 0 (extraOf (rgL 0 extra))))) x11.2)) ∧ 
 (x.rb = x.rb) ∧ 
 ((x.off : Int) = (↑(x14.v.off) : Int)) ∧ 
 (x.sb = x.sb ∧ Off.lit 0 = Off.lit 0) ∧ 
 (Value.nilIface = Value.nilIface) ∧ (x.bb = x.bb ∧ Off.lit 0 = Off.lit 0) ∧ 
 ((x.bits : Int) = (↑(x14.v.bits) : Int)) ∧ 
 ((x.num : Int) = (↑(x14.v.num) : Int)) ∧ 
 (x.big = x.big) ∧ 
 (x.pk = x14.v.pk ∧ x.pkn = x14.v.pkn) ∧ 
 (x.dis = x14.v.dis) ∧ 
 ((x.fed : Int) = (↑(x14.v.fed) : Int)) ∧ 
 (Value.pointer none = Value.pointer none) ∧ (x.bb = x.bb ∧ Off.lit 0 = Off.lit 0) ∧ 
 (Value.pointer none = Value.pointer none) ∧ (x.sb = x.sb) ∧ 
 (x.vs = x.vs ∧ ints x.bs = ints x.bs) ∧ 
 ((x.off : Int) = (↑(x14.v.off) : Int)) ∧ 
 (x.prev = x14.v.prev) ∧ 
 (x.bb = x.bb) ∧ 
 (x.sb = x.sb ∧ Off.lit 0 = Off.lit 0) ∧ 
 ((x.pos : Int) = (↑(x14.v.pos) : Int)) ∧ 
 (x.bv = x14.v.bv ∧ x.bn = x14.v.bn) ∧ 
 ((512 : Nat) = (512 : Nat) ∧ x.arr = x14.v.arr) ∧ 
 (x1 = x1) ∧ (x.rb = x.rb ∧ Off.lit 0 = Off.lit 0) ∧ 
 (x2 = x2) ∧ (vc = vc ∧ canonL lens = canonL lens) ∧ 
 (x3 = x3) ∧ (vr = vr ∧ rgL 0 extra = rgL 0 extra) ∧ 
 (x4 = x4) ∧ (true = true) ∧ (x5 = x5) ∧ (x11.1.cv = x11.1.cv ∧ ints x11.1.ch = ints x11.1.ch) ∧ 
 (x11.1.lv = x11.1.lv ∧ x11.1.lk = x11.1.lk) ∧ 
 ((x11.1.cm : Int) = (x11.1.cm : Int)) ∧ ((x11.1.lm : Int) = (x11.1.lm : Int)) ∧ ((x11.1.cb : Int) = (x11.1.cb : Int)) ∧ ((x11.1.mb : Int) = (x11.1.mb : Int)) ∧ ((x11.1.ns : Int) = (x11.1.ns : Int)) ∧ (x6 = x6) ∧ (x13 = x13 ∧ rgL 0 (extraOf (rgL 0 extra)) = rgL 0 (extraOf (rgL 0 extra))) ∧ 
 (x7 = x7) ∧ (true = true) ∧ (Value.slice none 0 0 = x14.gx ∧ [] = x14.gl) ∧ 
 ∀ x15 : (Y53), ((ph53 lens (X53.mk x vl l vc vr extra) (noteS (SV.segs (SV.ro 215 x13 (rgL 0 (extraOf (rgL 0 extra))))) x11.2) x15) → 
 Br (decide ((x15.i : Int) < (↑(List.length l) : Int)))
 ((inRange (x15.i : Int) (List.length l)) ∧ 
 (Int.toNat (x15.i : Int) < List.length l) ∧ 
 ∀ x16 : (Pt), ((l[Int.toNat (x15.i : Int)]? = some x16) → 
 ∀ x17 : (Nat), (x17 = x17) ∧ (x17 = x17) ∧ ∀ x18 : (Nat), (x18 = x18) ∧ ∀ x19 : (Nat), (x19 = x19) ∧ ∀ x20 : (Nat), (x17 = x17) ∧ Br (x16.kind == (0 : Int))
 ((x17 = x17) ∧ (x18 = x18) ∧ (x4 = x4) ∧ (x1 = x1) ∧ (x17 = x17) ∧ ∃ x21 : (Nat), ∀ x22 : (Nat → Option Obj), (rsOK (RS.mk x22 x15.rel x.rb x.sb x.bb x.vs (nats (ints x.bs)) x.big x21 (Int.toNat (↑(x15.v.off) : Int)) (Int.toNat (↑(x15.v.bits) : Int)) (Int.toNat (↑(x15.v.num) : Int)) (x15.v.pk) (x15.v.pkn) (x15.v.dis) (Int.toNat (↑(x15.v.fed) : Int)) (Int.toNat (↑(x15.v.pos) : Int)) (x15.v.bv) (x15.v.bn) (x15.v.arr) (x15.v.prev)) ∧ Int.toNat x16.n ≤ (56 : Nat)) ∧ 
 (x.rb = x.rb ∧ Off.lit 0 = Off.lit 0) ∧ 
 (x16.n = (↑(Int.toNat x16.n) : Int)) ∧ 
 (x22 = x22) ∧ 
 (relLe x15.rel x15.rel) ∧ 
 (x.rb = x.rb) ∧ 
 ((↑(x15.v.off) : Int) = (↑(Int.toNat (↑(x15.v.off) : Int)) : Int)) ∧ 
 (x.sb = x.sb ∧ Off.lit 0 = Off.lit 0) ∧ 
 (Value.nilIface = Value.nilIface) ∧ (x.bb = x.bb ∧ Off.lit 0 = Off.lit 0) ∧ 
 ((↑(x15.v.bits) : Int) = (↑(Int.toNat (↑(x15.v.bits) : Int)) : Int)) ∧ 
 ((↑(x15.v.num) : Int) = (↑(Int.toNat (↑(x15.v.num) : Int)) : Int)) ∧ 
 (x.big = x.big) ∧ 
 (x15.v.pk = x15.v.pk ∧ x15.v.pkn = x15.v.pkn) ∧ 
 (x15.v.dis = x15.v.dis) ∧ 
 ((↑(x15.v.fed) : Int) = (↑(Int.toNat (↑(x15.v.fed) : Int)) : Int)) ∧ 
 (Value.pointer none = Value.pointer none) ∧ (x.bb = x.bb ∧ Off.lit 0 = Off.lit 0) ∧ 
 (Value.pointer none = Value.pointer none) ∧ (x.sb = x.sb) ∧ 
 (x.vs = x.vs ∧ ints x.bs = ints (nats (ints x.bs))) ∧ 
 ((↑(x15.v.off) : Int) = (↑(Int.toNat (↑(x15.v.off) : Int)) : Int)) ∧ 
 (x15.v.prev = x15.v.prev) ∧ 
 (x.bb = x.bb) ∧ 
 (x.sb = x.sb ∧ Off.lit 0 = Off.lit 0) ∧ 
 ((↑(x15.v.pos) : Int) = (↑(Int.toNat (↑(x15.v.pos) : Int)) : Int)) ∧ 
 (x15.v.bv = x15.v.bv ∧ x15.v.bn = x15.v.bn) ∧ 
 ((512 : Nat) = (512 : Nat) ∧ x15.v.arr = x15.v.arr) ∧ 
 (∀ x23 : (Unit), ((True) → 
 (x22 = x22) ∧ 
 (x1 = x1) ∧ (x17 = x17) ∧ ∃ x24 : (Nat), ∀ x25 : (Nat → Option Obj), (rsOK (RS.mk x25 x15.rel x.rb x.sb x.bb x.vs (nats (ints (nats (ints x.bs)))) x.big x24 (Int.toNat (↑(Int.toNat (↑(x15.v.off) : Int)) : Int)) (Int.toNat (↑(Int.toNat (↑(x15.v.bits) : Int)) : Int)) (Int.toNat (↑(Int.toNat (↑(x15.v.num) : Int)) : Int)) (x15.v.pk) (x15.v.pkn) (x15.v.dis) (Int.toNat (↑(Int.toNat (↑(x15.v.fed) : Int)) : Int)) (Int.toNat (↑(Int.toNat (↑(x15.v.pos) : Int)) : Int)) (x15.v.bv) (x15.v.bn) (x15.v.arr) (x15.v.prev)) ∧ Int.toNat x16.n ≤ (56 : Nat)) ∧ 
 (x.rb = x.rb ∧ Off.lit 0 = Off.lit 0) ∧ 
 (x16.n = (↑(Int.toNat x16.n) : Int)) ∧ 
 (x25 = x25) ∧ 
 (relLe x15.rel x15.rel) ∧ 
 (x.rb = x.rb) ∧ 
 ((↑(Int.toNat (↑(x15.v.off) : Int)) : Int) = (↑(Int.toNat (↑(Int.toNat (↑(x15.v.off) : Int)) : Int)) : Int)) ∧ 
 (x.sb = x.sb ∧ Off.lit 0 = Off.lit 0) ∧ 
 (Value.nilIface = Value.nilIface) ∧ (x.bb = x.bb ∧ Off.lit 0 = Off.lit 0) ∧ 
 ((↑(Int.toNat (↑(x15.v.bits) : Int)) : Int) = (↑(Int.toNat (↑(Int.toNat (↑(x15.v.bits) : Int)) : Int)) : Int)) ∧ 
 ((↑(Int.toNat (↑(x15.v.num) : Int)) : Int) = (↑(Int.toNat (↑(Int.toNat (↑(x15.v.num) : Int)) : Int)) : Int)) ∧ 
 (x.big = x.big) ∧ 
 (x15.v.pk = x15.v.pk ∧ x15.v.pkn = x15.v.pkn) ∧ 
 (x15.v.dis = x15.v.dis) ∧ 
 ((↑(Int.toNat (↑(x15.v.fed) : Int)) : Int) = (↑(Int.toNat (↑(Int.toNat (↑(x15.v.fed) : Int)) : Int)) : Int)) ∧ 
 (Value.pointer none = Value.pointer none) ∧ (x.bb = x.bb ∧ Off.lit 0 = Off.lit 0) ∧ 
 (Value.pointer none = Value.pointer none) ∧ (x.sb = x.sb) ∧ 
 (x.vs = x.vs ∧ ints (nats (ints x.bs)) = ints (nats (ints (nats (ints x.bs))))) ∧ 
 ((↑(Int.toNat (↑(x15.v.off) : Int)) : Int) = (↑(Int.toNat (↑(Int.toNat (↑(x15.v.off) : Int)) : Int)) : Int)) ∧ 
 (x15.v.prev = x15.v.prev) ∧ 
 (x.bb = x.bb) ∧ 
 (x.sb = x.sb ∧ Off.lit 0 = Off.lit 0) ∧ 
 ((↑(Int.toNat (↑(x15.v.pos) : Int)) : Int) = (↑(Int.toNat (↑(Int.toNat (↑(x15.v.pos) : Int)) : Int)) : Int)) ∧ 
 (x15.v.bv = x15.v.bv ∧ x15.v.bn = x15.v.bn) ∧ 
 ((512 : Nat) = (512 : Nat) ∧ x15.v.arr = x15.v.arr) ∧ 
 (∀ x26 : (RV), ((took (RS.mk x25 x15.rel x.rb x.sb x.bb x.vs (nats (ints (nats (ints x.bs)))) x.big x24 (Int.toNat (↑(Int.toNat (↑(x15.v.off) : Int)) : Int)) (Int.toNat (↑(Int.toNat (↑(x15.v.bits) : Int)) : Int)) (Int.toNat (↑(Int.toNat (↑(x15.v.num) : Int)) : Int)) (x15.v.pk) (x15.v.pkn) (x15.v.dis) (Int.toNat (↑(Int.toNat (↑(x15.v.fed) : Int)) : Int)) (Int.toNat (↑(Int.toNat (↑(x15.v.pos) : Int)) : Int)) (x15.v.bv) (x15.v.bn) (x15.v.arr) (x15.v.prev)) (Int.toNat x16.n) x26) → 
 (x25 = x25) ∧ 
 (x18 = x18) ∧ (x20 = x20) ∧ (x20 = x20) ∧ (x20 = x20) ∧ (x19 = x19) ∧ (x18 = x18) ∧ ∀ x27 : (Nat), (x15.gx = x15.gx ∧ List.length x15.gl = List.length x15.gl) ∧ 
 (Value.slice (some (Addr.mk x27 0 none)) 1 1 = Value.slice (some (Addr.mk x27 0 none)) 1 1 ∧ (1 : Nat) = List.length [Pt.mk x16.kind (↑(RS.W (RS.mk x25 x15.rel x.rb x.sb x.bb x.vs (nats (ints (nats (ints x.bs)))) x.big x24 (Int.toNat (↑(Int.toNat (↑(x15.v.off) : Int)) : Int)) (Int.toNat (↑(Int.toNat (↑(x15.v.bits) : Int)) : Int)) (Int.toNat (↑(Int.toNat (↑(x15.v.num) : Int)) : Int)) (x15.v.pk) (x15.v.pkn) (x15.v.dis) (Int.toNat (↑(Int.toNat (↑(x15.v.fed) : Int)) : Int)) (Int.toNat (↑(Int.toNat (↑(x15.v.pos) : Int)) : Int)) (x15.v.bv) (x15.v.bn) (x15.v.arr) (x15.v.prev)) % (2 : Nat) ^ Int.toNat x16.n) : Int) x16.n (Sl.mk none 0 0)]) ∧ 
 (room (List.length x15.gl + List.length [Pt.mk x16.kind (↑(RS.W (RS.mk x25 x15.rel x.rb x.sb x.bb x.vs (nats (ints (nats (ints x.bs)))) x.big x24 (Int.toNat (↑(Int.toNat (↑(x15.v.off) : Int)) : Int)) (Int.toNat (↑(Int.toNat (↑(x15.v.bits) : Int)) : Int)) (Int.toNat (↑(Int.toNat (↑(x15.v.num) : Int)) : Int)) (x15.v.pk) (x15.v.pkn) (x15.v.dis) (Int.toNat (↑(Int.toNat (↑(x15.v.fed) : Int)) : Int)) (Int.toNat (↑(Int.toNat (↑(x15.v.pos) : Int)) : Int)) (x15.v.bv) (x15.v.bn) (x15.v.arr) (x15.v.prev)) % (2 : Nat) ^ Int.toNat x16.n) : Int) x16.n (Sl.mk none 0 0)]) 48) ∧ 
 ∀ x28 : (Value), (x1 = x1) ∧ ∃ x29 : (Nat), ∀ x30 : (Nat → Option Obj), (rsW (RS.mk x30 x15.rel x.rb x.sb x.bb x.vs (nats (ints (nats (ints (nats (ints x.bs)))))) x.big x29 (Int.toNat (x26.off : Int)) (Int.toNat (x26.bits : Int)) (Int.toNat (x26.num : Int)) x26.pk x26.pkn x26.dis (Int.toNat (x26.fed : Int)) (Int.toNat (x26.pos : Int)) x26.bv x26.bn x26.arr x26.prev)) ∧ 
 (x.rb = x.rb ∧ Off.lit 0 = Off.lit 0) ∧ 
 (x30 = x30) ∧ 
 (relLe x15.rel x15.rel) ∧ 
 (x.rb = x.rb) ∧ 
 ((x26.off : Int) = (↑(Int.toNat (x26.off : Int)) : Int)) ∧ 
 (x.sb = x.sb ∧ Off.lit 0 = Off.lit 0) ∧ 
 (Value.nilIface = Value.nilIface) ∧ (x.bb = x.bb ∧ Off.lit 0 = Off.lit 0) ∧ 
 ((x26.bits : Int) = (↑(Int.toNat (x26.bits : Int)) : Int)) ∧ 
 ((x26.num : Int) = (↑(Int.toNat (x26.num : Int)) : Int)) ∧ 
 (x.big = x.big) ∧ 
 (x26.pk = x26.pk ∧ x26.pkn = x26.pkn) ∧ 
 (x26.dis = x26.dis) ∧ 
 ((x26.fed : Int) = (↑(Int.toNat (x26.fed : Int)) : Int)) ∧ 
 (Value.pointer none = Value.pointer none) ∧ (x.bb = x.bb ∧ Off.lit 0 = Off.lit 0) ∧ 
 (Value.pointer none = Value.pointer none) ∧ (x.sb = x.sb) ∧ 
 (x.vs = x.vs ∧ ints (nats (ints (nats (ints x.bs)))) = ints (nats (ints (nats (ints (nats (ints x.bs))))))) ∧ 
 ((x26.off : Int) = (↑(Int.toNat (x26.off : Int)) : Int)) ∧ 
 (x26.prev = x26.prev) ∧ 
 (x.bb = x.bb) ∧ 
 (x.sb = x.sb ∧ Off.lit 0 = Off.lit 0) ∧ 
 ((x26.pos : Int) = (↑(Int.toNat (x26.pos : Int)) : Int)) ∧ 
 (x26.bv = x26.bv ∧ x26.bn = x26.bn) ∧ 
 ((512 : Nat) = (512 : Nat) ∧ x26.arr = x26.arr) ∧ 
 ∀ x31 : (Unit), ((True) → 
 (x30 = x30) ∧ 
 (inI64 ((x15.i : Int) + (1 : Int))) ∧ 
 ∃ x32 : (Y53), (ph53 lens (X53.mk x vl l vc vr extra) (noteS (SV.segs (SV.ro 215 x13 (rgL 0 (extraOf (rgL 0 extra))))) x11.2) x32 ∧ List.length l - x32.i < List.length l - x15.i) ∧ 
 (x28 = x32.gx ∧ List.length x15.gl + List.length [Pt.mk x16.kind (↑(RS.W (RS.mk x25 x15.rel x.rb x.sb x.bb x.vs (nats (ints (nats (ints x.bs)))) x.big x24 (Int.toNat (↑(Int.toNat (↑(x15.v.off) : Int)) : Int)) (Int.toNat (↑(Int.toNat (↑(x15.v.bits) : Int)) : Int)) (Int.toNat (↑(Int.toNat (↑(x15.v.num) : Int)) : Int)) (x15.v.pk) (x15.v.pkn) (x15.v.dis) (Int.toNat (↑(Int.toNat (↑(x15.v.fed) : Int)) : Int)) (Int.toNat (↑(Int.toNat (↑(x15.v.pos) : Int)) : Int)) (x15.v.bv) (x15.v.bn) (x15.v.arr) (x15.v.prev)) % (2 : Nat) ^ Int.toNat x16.n) : Int) x16.n (Sl.mk none 0 0)] = List.length x32.gl) ∧ 
 ((x15.i : Int) + (1 : Int) = (x32.i : Int)) ∧ 
 ((x29 : Int) = (↑(Y53.P x32) : Int)) ∧ 
 (x.m = x.m) ∧ (relLe x32.rel (relAdd x15.rel 36 (Value.slice (some (Addr.mk x27 0 none)) 1 1) [Pt.mk x16.kind (↑(RS.W (RS.mk x25 x15.rel x.rb x.sb x.bb x.vs (nats (ints (nats (ints x.bs)))) x.big x24 (Int.toNat (↑(Int.toNat (↑(x15.v.off) : Int)) : Int)) (Int.toNat (↑(Int.toNat (↑(x15.v.bits) : Int)) : Int)) (Int.toNat (↑(Int.toNat (↑(x15.v.num) : Int)) : Int)) (x15.v.pk) (x15.v.pkn) (x15.v.dis) (Int.toNat (↑(Int.toNat (↑(x15.v.fed) : Int)) : Int)) (Int.toNat (↑(Int.toNat (↑(x15.v.pos) : Int)) : Int)) (x15.v.bv) (x15.v.bn) (x15.v.arr) (x15.v.prev)) % (2 : Nat) ^ Int.toNat x16.n) : Int) x16.n (Sl.mk none 0 0)])) ∧ 
 (x.rb = x.rb) ∧ 
 ((↑(Int.toNat (x26.off : Int)) : Int) = (↑(x32.v.off) : Int)) ∧ 
 (x.sb = x.sb ∧ Off.lit 0 = Off.lit 0) ∧ 
 (Value.nilIface = Value.nilIface) ∧ (x.bb = x.bb ∧ Off.lit 0 = Off.lit 0) ∧ 
 ((↑(Int.toNat (x26.bits : Int)) : Int) = (↑(x32.v.bits) : Int)) ∧ 
 ((↑(Int.toNat (x26.num : Int)) : Int) = (↑(x32.v.num) : Int)) ∧ 
 (x.big = x.big) ∧ 
 (x26.pk = x32.v.pk ∧ x26.pkn = x32.v.pkn) ∧ 
 (x26.dis = x32.v.dis) ∧ 
 ((↑(Int.toNat (x26.fed : Int)) : Int) = (↑(x32.v.fed) : Int)) ∧ 
 (Value.pointer none = Value.pointer none) ∧ (x.bb = x.bb ∧ Off.lit 0 = Off.lit 0) ∧ 
 (Value.pointer none = Value.pointer none) ∧ (x.sb = x.sb) ∧ 
 (x.vs = x.vs ∧ ints (nats (ints (nats (ints (nats (ints x.bs)))))) = ints x.bs) ∧ 
 ((↑(Int.toNat (x26.off : Int)) : Int) = (↑(x32.v.off) : Int)) ∧ 
 (x26.prev = x32.v.prev) ∧ 
 (x.bb = x.bb) ∧ 
 (x.sb = x.sb ∧ Off.lit 0 = Off.lit 0) ∧ 
 ((↑(Int.toNat (x26.pos : Int)) : Int) = (↑(x32.v.pos) : Int)) ∧ 
 (x26.bv = x32.v.bv ∧ x26.bn = x32.v.bn) ∧ 
 ((512 : Nat) = (512 : Nat) ∧ x26.arr = x32.v.arr) ∧ 
 (x1 = x1) ∧ (x.rb = x.rb ∧ Off.lit 0 = Off.lit 0) ∧ 
 (x2 = x2) ∧ (vc = vc ∧ canonL lens = canonL lens) ∧ 
 (x3 = x3) ∧ (vr = vr ∧ rgL 0 extra = rgL 0 extra) ∧ 
 (x4 = x4) ∧ (true = true) ∧ (x5 = x5) ∧ (x11.1.cv = x11.1.cv ∧ ints x11.1.ch = ints x11.1.ch) ∧ 
 (x11.1.lv = x11.1.lv ∧ x11.1.lk = x11.1.lk) ∧ 
 ((x11.1.cm : Int) = (x11.1.cm : Int)) ∧ ((x11.1.lm : Int) = (x11.1.lm : Int)) ∧ ((x11.1.cb : Int) = (x11.1.cb : Int)) ∧ ((x11.1.mb : Int) = (x11.1.mb : Int)) ∧ ((x11.1.ns : Int) = (x11.1.ns : Int)) ∧ (x6 = x6) ∧ (x13 = x13 ∧ rgL 0 (extraOf (rgL 0 extra)) = rgL 0 (extraOf (rgL 0 extra))) ∧ 
 (x7 = x7) ∧ (true = true) ∧ (x28 = x32.gx ∧ x15.gl ++ [Pt.mk x16.kind (↑(RS.W (RS.mk x25 x15.rel x.rb x.sb x.bb x.vs (nats (ints (nats (ints x.bs)))) x.big x24 (Int.toNat (↑(Int.toNat (↑(x15.v.off) : Int)) : Int)) (Int.toNat (↑(Int.toNat (↑(x15.v.bits) : Int)) : Int)) (Int.toNat (↑(Int.toNat (↑(x15.v.num) : Int)) : Int)) (x15.v.pk) (x15.v.pkn) (x15.v.dis) (Int.toNat (↑(Int.toNat (↑(x15.v.fed) : Int)) : Int)) (Int.toNat (↑(Int.toNat (↑(x15.v.pos) : Int)) : Int)) (x15.v.bv) (x15.v.bn) (x15.v.arr) (x15.v.prev)) % (2 : Nat) ^ Int.toNat x16.n) : Int) x16.n (Sl.mk none 0 0)] = x32.gl) ∧ 
 (True)))) ∧
 (∀ x26 : (RV × Nat), ((lacks (RS.mk x25 x15.rel x.rb x.sb x.bb x.vs (nats (ints (nats (ints x.bs)))) x.big x24 (Int.toNat (↑(Int.toNat (↑(x15.v.off) : Int)) : Int)) (Int.toNat (↑(Int.toNat (↑(x15.v.bits) : Int)) : Int)) (Int.toNat (↑(Int.toNat (↑(x15.v.num) : Int)) : Int)) (x15.v.pk) (x15.v.pkn) (x15.v.dis) (Int.toNat (↑(Int.toNat (↑(x15.v.fed) : Int)) : Int)) (Int.toNat (↑(Int.toNat (↑(x15.v.pos) : Int)) : Int)) (x15.v.bv) (x15.v.bn) (x15.v.arr) (x15.v.prev)) (Int.toNat x16.n) x26.1) → 
 (x25 = x25) ∧ 
 (x20 = x20) ∧ (x20 = x20) ∧ (x15.gx = x15.gx ∧ List.length x15.gl = List.length x15.gl) ∧ 
 ∃ x27 : (Y20 × RV), (ps53 lens (X53.mk x vl l vc vr extra) x27.1 x27.2) ∧ 
 (x15.gx = x27.1.gv ∧ x15.gl = x27.1.gl) ∧ 
 ((x15.i : Int) = wrong x27.1.st (List.length x27.1.gl)) ∧ 
 ((↑(Y53.P x15) : Int) = (↑((8 : Nat) * List.length x.bs - x27.1.left) : Int)) ∧ 
 (x.m = x.m) ∧ 
 (relLe x27.1.rel x15.rel) ∧ 
 (x.rb = x.rb) ∧ 
 ((x26.1.off : Int) = (x27.2.off : Int)) ∧ 
 (x.sb = x.sb ∧ Off.lit 0 = Off.lit 0) ∧ 
 (Value.nilIface = Value.nilIface) ∧ (x.bb = x.bb ∧ Off.lit 0 = Off.lit 0) ∧ 
 ((x26.1.bits : Int) = (x27.2.bits : Int)) ∧ 
 ((x26.1.num : Int) = (x27.2.num : Int)) ∧ 
 (x.big = x.big) ∧ 
 (x26.1.pk = x27.2.pk ∧ x26.1.pkn = x27.2.pkn) ∧ 
 (x26.1.dis = x27.2.dis) ∧ 
 ((x26.1.fed : Int) = (x27.2.fed : Int)) ∧ 
 (Value.pointer none = Value.pointer none) ∧ (x.bb = x.bb ∧ Off.lit 0 = Off.lit 0) ∧ 
 (Value.pointer none = Value.pointer none) ∧ (x.sb = x.sb) ∧ 
 (x.vs = x.vs ∧ ints (nats (ints (nats (ints x.bs)))) = ints x.bs) ∧ 
 ((x26.1.off : Int) = (x27.2.off : Int)) ∧ 
 (x26.1.prev = x27.2.prev) ∧ 
 (x.bb = x.bb) ∧ 
 (x.sb = x.sb ∧ Off.lit 0 = Off.lit 0) ∧ 
 ((x26.1.pos : Int) = (x27.2.pos : Int)) ∧ 
 (x26.1.bv = x27.2.bv ∧ x26.1.bn = x27.2.bn) ∧ 
 ((512 : Nat) = (512 : Nat) ∧ x26.1.arr = x27.2.arr) ∧ 
 (True))))) ∧
 (∀ x23 : (RV), ((took (RS.mk x22 x15.rel x.rb x.sb x.bb x.vs (nats (ints x.bs)) x.big x21 (Int.toNat (↑(x15.v.off) : Int)) (Int.toNat (↑(x15.v.bits) : Int)) (Int.toNat (↑(x15.v.num) : Int)) (x15.v.pk) (x15.v.pkn) (x15.v.dis) (Int.toNat (↑(x15.v.fed) : Int)) (Int.toNat (↑(x15.v.pos) : Int)) (x15.v.bv) (x15.v.bn) (x15.v.arr) (x15.v.prev)) (Int.toNat x16.n) x23) → 
 (x22 = x22) ∧ 
 (x18 = x18) ∧ (x20 = x20) ∧ (x20 = x20) ∧ (x20 = x20) ∧ (x19 = x19) ∧ (x18 = x18) ∧ ∀ x24 : (Nat), (x15.gx = x15.gx ∧ List.length x15.gl = List.length x15.gl) ∧ 
 (Value.slice (some (Addr.mk x24 0 none)) 1 1 = Value.slice (some (Addr.mk x24 0 none)) 1 1 ∧ (1 : Nat) = List.length [Pt.mk x16.kind (↑(RS.W (RS.mk x22 x15.rel x.rb x.sb x.bb x.vs (nats (ints x.bs)) x.big x21 (Int.toNat (↑(x15.v.off) : Int)) (Int.toNat (↑(x15.v.bits) : Int)) (Int.toNat (↑(x15.v.num) : Int)) (x15.v.pk) (x15.v.pkn) (x15.v.dis) (Int.toNat (↑(x15.v.fed) : Int)) (Int.toNat (↑(x15.v.pos) : Int)) (x15.v.bv) (x15.v.bn) (x15.v.arr) (x15.v.prev)) % (2 : Nat) ^ Int.toNat x16.n) : Int) x16.n (Sl.mk none 0 0)]) ∧ 
 (room (List.length x15.gl + List.length [Pt.mk x16.kind (↑(RS.W (RS.mk x22 x15.rel x.rb x.sb x.bb x.vs (nats (ints x.bs)) x.big x21 (Int.toNat (↑(x15.v.off) : Int)) (Int.toNat (↑(x15.v.bits) : Int)) (Int.toNat (↑(x15.v.num) : Int)) (x15.v.pk) (x15.v.pkn) (x15.v.dis) (Int.toNat (↑(x15.v.fed) : Int)) (Int.toNat (↑(x15.v.pos) : Int)) (x15.v.bv) (x15.v.bn) (x15.v.arr) (x15.v.prev)) % (2 : Nat) ^ Int.toNat x16.n) : Int) x16.n (Sl.mk none 0 0)]) 48) ∧ 
 ∀ x25 : (Value), (x1 = x1) ∧ ∃ x26 : (Nat), ∀ x27 : (Nat → Option Obj), (rsW (RS.mk x27 x15.rel x.rb x.sb x.bb x.vs (nats (ints (nats (ints x.bs)))) x.big x26 (Int.toNat (x23.off : Int)) (Int.toNat (x23.bits : Int)) (Int.toNat (x23.num : Int)) x23.pk x23.pkn x23.dis (Int.toNat (x23.fed : Int)) (Int.toNat (x23.pos : Int)) x23.bv x23.bn x23.arr x23.prev)) ∧ 
 (x.rb = x.rb ∧ Off.lit 0 = Off.lit 0) ∧ 
 (x27 = x27) ∧ 
 (relLe x15.rel x15.rel) ∧ 
 (x.rb = x.rb) ∧ 
 ((x23.off : Int) = (↑(Int.toNat (x23.off : Int)) : Int)) ∧ 
 (x.sb = x.sb ∧ Off.lit 0 = Off.lit 0) ∧ 
 (Value.nilIface = Value.nilIface) ∧ (x.bb = x.bb ∧ Off.lit 0 = Off.lit 0) ∧ 
 ((x23.bits : Int) = (↑(Int.toNat (x23.bits : Int)) : Int)) ∧ 
 ((x23.num : Int) = (↑(Int.toNat (x23.num : Int)) : Int)) ∧ 
 (x.big = x.big) ∧ 
 (x23.pk = x23.pk ∧ x23.pkn = x23.pkn) ∧ 
 (x23.dis = x23.dis) ∧ 
 ((x23.fed : Int) = (↑(Int.toNat (x23.fed : Int)) : Int)) ∧ 
 (Value.pointer none = Value.pointer none) ∧ (x.bb = x.bb ∧ Off.lit 0 = Off.lit 0) ∧ 
 (Value.pointer none = Value.pointer none) ∧ (x.sb = x.sb) ∧ 
 (x.vs = x.vs ∧ ints (nats (ints x.bs)) = ints (nats (ints (nats (ints x.bs))))) ∧ 
 ((x23.off : Int) = (↑(Int.toNat (x23.off : Int)) : Int)) ∧ 
 (x23.prev = x23.prev) ∧ 
 (x.bb = x.bb) ∧ 
 (x.sb = x.sb ∧ Off.lit 0 = Off.lit 0) ∧ 
 ((x23.pos : Int) = (↑(Int.toNat (x23.pos : Int)) : Int)) ∧ 
 (x23.bv = x23.bv ∧ x23.bn = x23.bn) ∧ 
 ((512 : Nat) = (512 : Nat) ∧ x23.arr = x23.arr) ∧ 
 ∀ x28 : (Unit), ((True) → 
 (x27 = x27) ∧ 
 (inI64 ((x15.i : Int) + (1 : Int))) ∧ 
 ∃ x29 : (Y53), (ph53 lens (X53.mk x vl l vc vr extra) (noteS (SV.segs (SV.ro 215 x13 (rgL 0 (extraOf (rgL 0 extra))))) x11.2) x29 ∧ List.length l - x29.i < List.length l - x15.i) ∧ 
 (x25 = x29.gx ∧ List.length x15.gl + List.length [Pt.mk x16.kind (↑(RS.W (RS.mk x22 x15.rel x.rb x.sb x.bb x.vs (nats (ints x.bs)) x.big x21 (Int.toNat (↑(x15.v.off) : Int)) (Int.toNat (↑(x15.v.bits) : Int)) (Int.toNat (↑(x15.v.num) : Int)) (x15.v.pk) (x15.v.pkn) (x15.v.dis) (Int.toNat (↑(x15.v.fed) : Int)) (Int.toNat (↑(x15.v.pos) : Int)) (x15.v.bv) (x15.v.bn) (x15.v.arr) (x15.v.prev)) % (2 : Nat) ^ Int.toNat x16.n) : Int) x16.n (Sl.mk none 0 0)] = List.length x29.gl) ∧ 
 ((x15.i : Int) + (1 : Int) = (x29.i : Int)) ∧ 
 ((x26 : Int) = (↑(Y53.P x29) : Int)) ∧ 
 (x.m = x.m) ∧ (relLe x29.rel (relAdd x15.rel 36 (Value.slice (some (Addr.mk x24 0 none)) 1 1) [Pt.mk x16.kind (↑(RS.W (RS.mk x22 x15.rel x.rb x.sb x.bb x.vs (nats (ints x.bs)) x.big x21 (Int.toNat (↑(x15.v.off) : Int)) (Int.toNat (↑(x15.v.bits) : Int)) (Int.toNat (↑(x15.v.num) : Int)) (x15.v.pk) (x15.v.pkn) (x15.v.dis) (Int.toNat (↑(x15.v.fed) : Int)) (Int.toNat (↑(x15.v.pos) : Int)) (x15.v.bv) (x15.v.bn) (x15.v.arr) (x15.v.prev)) % (2 : Nat) ^ Int.toNat x16.n) : Int) x16.n (Sl.mk none 0 0)])) ∧ 
 (x.rb = x.rb) ∧ 
 ((↑(Int.toNat (x23.off : Int)) : Int) = (↑(x29.v.off) : Int)) ∧ 
 (x.sb = x.sb ∧ Off.lit 0 = Off.lit 0) ∧ 
 (Value.nilIface = Value.nilIface) ∧ (x.bb = x.bb ∧ Off.lit 0 = Off.lit 0) ∧ 
 ((↑(Int.toNat (x23.bits : Int)) : Int) = (↑(x29.v.bits) : Int)) ∧ 
 ((↑(Int.toNat (x23.num : Int)) : Int) = (↑(x29.v.num) : Int)) ∧ 
 (x.big = x.big) ∧ 
 (x23.pk = x29.v.pk ∧ x23.pkn = x29.v.pkn) ∧ 
 (x23.dis = x29.v.dis) ∧ 
 ((↑(Int.toNat (x23.fed : Int)) : Int) = (↑(x29.v.fed) : Int)) ∧ 
 (Value.pointer none = Value.pointer none) ∧ (x.bb = x.bb ∧ Off.lit 0 = Off.lit 0) ∧ 
 (Value.pointer none = Value.pointer none) ∧ (x.sb = x.sb) ∧ 
 (x.vs = x.vs ∧ ints (nats (ints (nats (ints x.bs)))) = ints x.bs) ∧ 
 ((↑(Int.toNat (x23.off : Int)) : Int) = (↑(x29.v.off) : Int)) ∧ 
 (x23.prev = x29.v.prev) ∧ 
 (x.bb = x.bb) ∧ 
 (x.sb = x.sb ∧ Off.lit 0 = Off.lit 0) ∧ 
 ((↑(Int.toNat (x23.pos : Int)) : Int) = (↑(x29.v.pos) : Int)) ∧ 
 (x23.bv = x29.v.bv ∧ x23.bn = x29.v.bn) ∧ 
 ((512 : Nat) = (512 : Nat) ∧ x23.arr = x29.v.arr) ∧ 
 (x1 = x1) ∧ (x.rb = x.rb ∧ Off.lit 0 = Off.lit 0) ∧ 
 (x2 = x2) ∧ (vc = vc ∧ canonL lens = canonL lens) ∧ 
 (x3 = x3) ∧ (vr = vr ∧ rgL 0 extra = rgL 0 extra) ∧ 
 (x4 = x4) ∧ (true = true) ∧ (x5 = x5) ∧ (x11.1.cv = x11.1.cv ∧ ints x11.1.ch = ints x11.1.ch) ∧ 
 (x11.1.lv = x11.1.lv ∧ x11.1.lk = x11.1.lk) ∧ 
 ((x11.1.cm : Int) = (x11.1.cm : Int)) ∧ ((x11.1.lm : Int) = (x11.1.lm : Int)) ∧ ((x11.1.cb : Int) = (x11.1.cb : Int)) ∧ ((x11.1.mb : Int) = (x11.1.mb : Int)) ∧ ((x11.1.ns : Int) = (x11.1.ns : Int)) ∧ (x6 = x6) ∧ (x13 = x13 ∧ rgL 0 (extraOf (rgL 0 extra)) = rgL 0 (extraOf (rgL 0 extra))) ∧ 
 (x7 = x7) ∧ (true = true) ∧ (x25 = x29.gx ∧ x15.gl ++ [Pt.mk x16.kind (↑(RS.W (RS.mk x22 x15.rel x.rb x.sb x.bb x.vs (nats (ints x.bs)) x.big x21 (Int.toNat (↑(x15.v.off) : Int)) (Int.toNat (↑(x15.v.bits) : Int)) (Int.toNat (↑(x15.v.num) : Int)) (x15.v.pk) (x15.v.pkn) (x15.v.dis) (Int.toNat (↑(x15.v.fed) : Int)) (Int.toNat (↑(x15.v.pos) : Int)) (x15.v.bv) (x15.v.bn) (x15.v.arr) (x15.v.prev)) % (2 : Nat) ^ Int.toNat x16.n) : Int) x16.n (Sl.mk none 0 0)] = x29.gl) ∧ 
 (True)))))
 (Br (x16.kind == (1 : Int))
 ((x4 = x4) ∧ (x1 = x1) ∧ ∃ x21 : (Nat), ∀ x22 : (Nat → Option Obj), (rsOK (RS.mk x22 x15.rel x.rb x.sb x.bb x.vs (nats (ints x.bs)) x.big x21 (Int.toNat (↑(x15.v.off) : Int)) (Int.toNat (↑(x15.v.bits) : Int)) (Int.toNat (↑(x15.v.num) : Int)) (x15.v.pk) (x15.v.pkn) (x15.v.dis) (Int.toNat (↑(x15.v.fed) : Int)) (Int.toNat (↑(x15.v.pos) : Int)) (x15.v.bv) (x15.v.bn) (x15.v.arr) (x15.v.prev)) ∧ decOK x15.rel lens (DC.mk x5 x11.1.cv (nats (ints x11.1.ch)) x11.1.lv x11.1.lk (Int.toNat (x11.1.cm : Int)) (Int.toNat (x11.1.lm : Int)) (Int.toNat (x11.1.cb : Int)) (Int.toNat (x11.1.mb : Int)) (Int.toNat (x11.1.ns : Int)))) ∧ 
 (x.rb = x.rb ∧ Off.lit 0 = Off.lit 0) ∧ 
 (x5 = x5 ∧ Off.lit 0 = Off.lit 0) ∧ 
 (x22 = x22) ∧ 
 (relLe x15.rel x15.rel) ∧ 
 (x.rb = x.rb) ∧ 
 ((↑(x15.v.off) : Int) = (↑(Int.toNat (↑(x15.v.off) : Int)) : Int)) ∧ 
 (x.sb = x.sb ∧ Off.lit 0 = Off.lit 0) ∧ 
 (Value.nilIface = Value.nilIface) ∧ (x.bb = x.bb ∧ Off.lit 0 = Off.lit 0) ∧ 
 ((↑(x15.v.bits) : Int) = (↑(Int.toNat (↑(x15.v.bits) : Int)) : Int)) ∧ 
 ((↑(x15.v.num) : Int) = (↑(Int.toNat (↑(x15.v.num) : Int)) : Int)) ∧ 
 (x.big = x.big) ∧ 
 (x15.v.pk = x15.v.pk ∧ x15.v.pkn = x15.v.pkn) ∧ 
 (x15.v.dis = x15.v.dis) ∧ 
 ((↑(x15.v.fed) : Int) = (↑(Int.toNat (↑(x15.v.fed) : Int)) : Int)) ∧ 
 (Value.pointer none = Value.pointer none) ∧ (x.bb = x.bb ∧ Off.lit 0 = Off.lit 0) ∧ 
 (Value.pointer none = Value.pointer none) ∧ (x.sb = x.sb) ∧ 
 (x.vs = x.vs ∧ ints x.bs = ints (nats (ints x.bs))) ∧ 
 ((↑(x15.v.off) : Int) = (↑(Int.toNat (↑(x15.v.off) : Int)) : Int)) ∧ 
 (x15.v.prev = x15.v.prev) ∧ 
 (x.bb = x.bb) ∧ 
 (x.sb = x.sb ∧ Off.lit 0 = Off.lit 0) ∧ 
 ((↑(x15.v.pos) : Int) = (↑(Int.toNat (↑(x15.v.pos) : Int)) : Int)) ∧ 
 (x15.v.bv = x15.v.bv ∧ x15.v.bn = x15.v.bn) ∧ 
 ((512 : Nat) = (512 : Nat) ∧ x15.v.arr = x15.v.arr) ∧ 
 (x5 = x5) ∧ 
 (x11.1.cv = x11.1.cv ∧ ints x11.1.ch = ints (nats (ints x11.1.ch))) ∧ 
 (x11.1.lv = x11.1.lv ∧ x11.1.lk = x11.1.lk) ∧ 
 ((x11.1.cm : Int) = (↑(Int.toNat (x11.1.cm : Int)) : Int)) ∧ 
 ((x11.1.lm : Int) = (↑(Int.toNat (x11.1.lm : Int)) : Int)) ∧ 
 ((x11.1.cb : Int) = (↑(Int.toNat (x11.1.cb : Int)) : Int)) ∧ 
 ((x11.1.mb : Int) = (↑(Int.toNat (x11.1.mb : Int)) : Int)) ∧ 
 ((x11.1.ns : Int) = (↑(Int.toNat (x11.1.ns : Int)) : Int)) ∧ 
 (∀ x23 : (Unit), ((True) → 
 (x22 = x22) ∧ 
 (x1 = x1) ∧ ∃ x24 : (Nat), ∀ x25 : (Nat → Option Obj), (rsOK (RS.mk x25 x15.rel x.rb x.sb x.bb x.vs (nats (ints (nats (ints x.bs)))) x.big x24 (Int.toNat (↑(Int.toNat (↑(x15.v.off) : Int)) : Int)) (Int.toNat (↑(Int.toNat (↑(x15.v.bits) : Int)) : Int)) (Int.toNat (↑(Int.toNat (↑(x15.v.num) : Int)) : Int)) (x15.v.pk) (x15.v.pkn) (x15.v.dis) (Int.toNat (↑(Int.toNat (↑(x15.v.fed) : Int)) : Int)) (Int.toNat (↑(Int.toNat (↑(x15.v.pos) : Int)) : Int)) (x15.v.bv) (x15.v.bn) (x15.v.arr) (x15.v.prev)) ∧ decOK x15.rel lens (DC.mk x5 x11.1.cv (nats (ints (nats (ints x11.1.ch)))) x11.1.lv x11.1.lk (Int.toNat (↑(Int.toNat (x11.1.cm : Int)) : Int)) (Int.toNat (↑(Int.toNat (x11.1.lm : Int)) : Int)) (Int.toNat (↑(Int.toNat (x11.1.cb : Int)) : Int)) (Int.toNat (↑(Int.toNat (x11.1.mb : Int)) : Int)) (Int.toNat (↑(Int.toNat (x11.1.ns : Int)) : Int)))) ∧ 
 (x.rb = x.rb ∧ Off.lit 0 = Off.lit 0) ∧ 
 (x5 = x5 ∧ Off.lit 0 = Off.lit 0) ∧ 
 (x25 = x25) ∧ 
 (relLe x15.rel x15.rel) ∧ 
 (x.rb = x.rb) ∧ 
 ((↑(Int.toNat (↑(x15.v.off) : Int)) : Int) = (↑(Int.toNat (↑(Int.toNat (↑(x15.v.off) : Int)) : Int)) : Int)) ∧ 
 (x.sb = x.sb ∧ Off.lit 0 = Off.lit 0) ∧ 
 (Value.nilIface = Value.nilIface) ∧ (x.bb = x.bb ∧ Off.lit 0 = Off.lit 0) ∧ 
 ((↑(Int.toNat (↑(x15.v.bits) : Int)) : Int) = (↑(Int.toNat (↑(Int.toNat (↑(x15.v.bits) : Int)) : Int)) : Int)) ∧ 
 ((↑(Int.toNat (↑(x15.v.num) : Int)) : Int) = (↑(Int.toNat (↑(Int.toNat (↑(x15.v.num) : Int)) : Int)) : Int)) ∧ 
 (x.big = x.big) ∧ 
 (x15.v.pk = x15.v.pk ∧ x15.v.pkn = x15.v.pkn) ∧ 
 (x15.v.dis = x15.v.dis) ∧ 
 ((↑(Int.toNat (↑(x15.v.fed) : Int)) : Int) = (↑(Int.toNat (↑(Int.toNat (↑(x15.v.fed) : Int)) : Int)) : Int)) ∧ 
 (Value.pointer none = Value.pointer none) ∧ (x.bb = x.bb ∧ Off.lit 0 = Off.lit 0) ∧ 
 (Value.pointer none = Value.pointer none) ∧ (x.sb = x.sb) ∧ 
 (x.vs = x.vs ∧ ints (nats (ints x.bs)) = ints (nats (ints (nats (ints x.bs))))) ∧ 
 ((↑(Int.toNat (↑(x15.v.off) : Int)) : Int) = (↑(Int.toNat (↑(Int.toNat (↑(x15.v.off) : Int)) : Int)) : Int)) ∧ 
 (x15.v.prev = x15.v.prev) ∧ 
 (x.bb = x.bb) ∧ 
 (x.sb = x.sb ∧ Off.lit 0 = Off.lit 0) ∧ 
 ((↑(Int.toNat (↑(x15.v.pos) : Int)) : Int) = (↑(Int.toNat (↑(Int.toNat (↑(x15.v.pos) : Int)) : Int)) : Int)) ∧ 
 (x15.v.bv = x15.v.bv ∧ x15.v.bn = x15.v.bn) ∧ 
 ((512 : Nat) = (512 : Nat) ∧ x15.v.arr = x15.v.arr) ∧ 
 (x5 = x5) ∧ 
 (x11.1.cv = x11.1.cv ∧ ints (nats (ints x11.1.ch)) = ints (nats (ints (nats (ints x11.1.ch))))) ∧ 
 (x11.1.lv = x11.1.lv ∧ x11.1.lk = x11.1.lk) ∧ 
 ((↑(Int.toNat (x11.1.cm : Int)) : Int) = (↑(Int.toNat (↑(Int.toNat (x11.1.cm : Int)) : Int)) : Int)) ∧ 
 ((↑(Int.toNat (x11.1.lm : Int)) : Int) = (↑(Int.toNat (↑(Int.toNat (x11.1.lm : Int)) : Int)) : Int)) ∧ 
 ((↑(Int.toNat (x11.1.cb : Int)) : Int) = (↑(Int.toNat (↑(Int.toNat (x11.1.cb : Int)) : Int)) : Int)) ∧ 
 ((↑(Int.toNat (x11.1.mb : Int)) : Int) = (↑(Int.toNat (↑(Int.toNat (x11.1.mb : Int)) : Int)) : Int)) ∧ 
 ((↑(Int.toNat (x11.1.ns : Int)) : Int) = (↑(Int.toNat (↑(Int.toNat (x11.1.ns : Int)) : Int)) : Int)) ∧ 
 (∀ x26 : (RV), ((took (RS.mk x25 x15.rel x.rb x.sb x.bb x.vs (nats (ints (nats (ints x.bs)))) x.big x24 (Int.toNat (↑(Int.toNat (↑(x15.v.off) : Int)) : Int)) (Int.toNat (↑(Int.toNat (↑(x15.v.bits) : Int)) : Int)) (Int.toNat (↑(Int.toNat (↑(x15.v.num) : Int)) : Int)) (x15.v.pk) (x15.v.pkn) (x15.v.dis) (Int.toNat (↑(Int.toNat (↑(x15.v.fed) : Int)) : Int)) (Int.toNat (↑(Int.toNat (↑(x15.v.pos) : Int)) : Int)) (x15.v.bv) (x15.v.bn) (x15.v.arr) (x15.v.prev)) (cl lens (RS.W (RS.mk x25 x15.rel x.rb x.sb x.bb x.vs (nats (ints (nats (ints x.bs)))) x.big x24 (Int.toNat (↑(Int.toNat (↑(x15.v.off) : Int)) : Int)) (Int.toNat (↑(Int.toNat (↑(x15.v.bits) : Int)) : Int)) (Int.toNat (↑(Int.toNat (↑(x15.v.num) : Int)) : Int)) (x15.v.pk) (x15.v.pkn) (x15.v.dis) (Int.toNat (↑(Int.toNat (↑(x15.v.fed) : Int)) : Int)) (Int.toNat (↑(Int.toNat (↑(x15.v.pos) : Int)) : Int)) (x15.v.bv) (x15.v.bn) (x15.v.arr) (x15.v.prev)))) x26) → 
 (x25 = x25) ∧ 
 (x18 = x18) ∧ (x20 = x20) ∧ (x20 = x20) ∧ (x20 = x20) ∧ (x19 = x19) ∧ (x18 = x18) ∧ ∀ x27 : (Nat), (x15.gx = x15.gx ∧ List.length x15.gl = List.length x15.gl) ∧ 
 (Value.slice (some (Addr.mk x27 0 none)) 1 1 = Value.slice (some (Addr.mk x27 0 none)) 1 1 ∧ (1 : Nat) = List.length [Pt.mk x16.kind (↑(cd lens (RS.W (RS.mk x25 x15.rel x.rb x.sb x.bb x.vs (nats (ints (nats (ints x.bs)))) x.big x24 (Int.toNat (↑(Int.toNat (↑(x15.v.off) : Int)) : Int)) (Int.toNat (↑(Int.toNat (↑(x15.v.bits) : Int)) : Int)) (Int.toNat (↑(Int.toNat (↑(x15.v.num) : Int)) : Int)) (x15.v.pk) (x15.v.pkn) (x15.v.dis) (Int.toNat (↑(Int.toNat (↑(x15.v.fed) : Int)) : Int)) (Int.toNat (↑(Int.toNat (↑(x15.v.pos) : Int)) : Int)) (x15.v.bv) (x15.v.bn) (x15.v.arr) (x15.v.prev)))) : Int) (0 : Int) (Sl.mk none 0 0)]) ∧ 
 (room (List.length x15.gl + List.length [Pt.mk x16.kind (↑(cd lens (RS.W (RS.mk x25 x15.rel x.rb x.sb x.bb x.vs (nats (ints (nats (ints x.bs)))) x.big x24 (Int.toNat (↑(Int.toNat (↑(x15.v.off) : Int)) : Int)) (Int.toNat (↑(Int.toNat (↑(x15.v.bits) : Int)) : Int)) (Int.toNat (↑(Int.toNat (↑(x15.v.num) : Int)) : Int)) (x15.v.pk) (x15.v.pkn) (x15.v.dis) (Int.toNat (↑(Int.toNat (↑(x15.v.fed) : Int)) : Int)) (Int.toNat (↑(Int.toNat (↑(x15.v.pos) : Int)) : Int)) (x15.v.bv) (x15.v.bn) (x15.v.arr) (x15.v.prev)))) : Int) (0 : Int) (Sl.mk none 0 0)]) 48) ∧ 
 ∀ x28 : (Value), (x1 = x1) ∧ ∃ x29 : (Nat), ∀ x30 : (Nat → Option Obj), (rsW (RS.mk x30 x15.rel x.rb x.sb x.bb x.vs (nats (ints (nats (ints (nats (ints x.bs)))))) x.big x29 (Int.toNat (x26.off : Int)) (Int.toNat (x26.bits : Int)) (Int.toNat (x26.num : Int)) x26.pk x26.pkn x26.dis (Int.toNat (x26.fed : Int)) (Int.toNat (x26.pos : Int)) x26.bv x26.bn x26.arr x26.prev)) ∧ 
 (x.rb = x.rb ∧ Off.lit 0 = Off.lit 0) ∧ 
 (x30 = x30) ∧ 
 (relLe x15.rel x15.rel) ∧ 
 (x.rb = x.rb) ∧ 
 ((x26.off : Int) = (↑(Int.toNat (x26.off : Int)) : Int)) ∧ 
 (x.sb = x.sb ∧ Off.lit 0 = Off.lit 0) ∧ 
 (Value.nilIface = Value.nilIface) ∧ (x.bb = x.bb ∧ Off.lit 0 = Off.lit 0) ∧ 
 ((x26.bits : Int) = (↑(Int.toNat (x26.bits : Int)) : Int)) ∧ 
 ((x26.num : Int) = (↑(Int.toNat (x26.num : Int)) : Int)) ∧ 
 (x.big = x.big) ∧ 
 (x26.pk = x26.pk ∧ x26.pkn = x26.pkn) ∧ 
 (x26.dis = x26.dis) ∧ 
 ((x26.fed : Int) = (↑(Int.toNat (x26.fed : Int)) : Int)) ∧ 
 (Value.pointer none = Value.pointer none) ∧ (x.bb = x.bb ∧ Off.lit 0 = Off.lit 0) ∧ 
 (Value.pointer none = Value.pointer none) ∧ (x.sb = x.sb) ∧ 
 (x.vs = x.vs ∧ ints (nats (ints (nats (ints x.bs)))) = ints (nats (ints (nats (ints (nats (ints x.bs))))))) ∧ 
 ((x26.off : Int) = (↑(Int.toNat (x26.off : Int)) : Int)) ∧ 
 (x26.prev = x26.prev) ∧ 
 (x.bb = x.bb) ∧ 
 (x.sb = x.sb ∧ Off.lit 0 = Off.lit 0) ∧ 
 ((x26.pos : Int) = (↑(Int.toNat (x26.pos : Int)) : Int)) ∧ 
 (x26.bv = x26.bv ∧ x26.bn = x26.bn) ∧ 
 ((512 : Nat) = (512 : Nat) ∧ x26.arr = x26.arr) ∧ 
 ∀ x31 : (Unit), ((True) → 
 (x30 = x30) ∧ 
 (inI64 ((x15.i : Int) + (1 : Int))) ∧ 
 ∃ x32 : (Y53), (ph53 lens (X53.mk x vl l vc vr extra) (noteS (SV.segs (SV.ro 215 x13 (rgL 0 (extraOf (rgL 0 extra))))) x11.2) x32 ∧ List.length l - x32.i < List.length l - x15.i) ∧ 
 (x28 = x32.gx ∧ List.length x15.gl + List.length [Pt.mk x16.kind (↑(cd lens (RS.W (RS.mk x25 x15.rel x.rb x.sb x.bb x.vs (nats (ints (nats (ints x.bs)))) x.big x24 (Int.toNat (↑(Int.toNat (↑(x15.v.off) : Int)) : Int)) (Int.toNat (↑(Int.toNat (↑(x15.v.bits) : Int)) : Int)) (Int.toNat (↑(Int.toNat (↑(x15.v.num) : Int)) : Int)) (x15.v.pk) (x15.v.pkn) (x15.v.dis) (Int.toNat (↑(Int.toNat (↑(x15.v.fed) : Int)) : Int)) (Int.toNat (↑(Int.toNat (↑(x15.v.pos) : Int)) : Int)) (x15.v.bv) (x15.v.bn) (x15.v.arr) (x15.v.prev)))) : Int) (0 : Int) (Sl.mk none 0 0)] = List.length x32.gl) ∧ 
 ((x15.i : Int) + (1 : Int) = (x32.i : Int)) ∧ 
 ((x29 : Int) = (↑(Y53.P x32) : Int)) ∧ 
 (x.m = x.m) ∧ (relLe x32.rel (relAdd x15.rel 36 (Value.slice (some (Addr.mk x27 0 none)) 1 1) [Pt.mk x16.kind (↑(cd lens (RS.W (RS.mk x25 x15.rel x.rb x.sb x.bb x.vs (nats (ints (nats (ints x.bs)))) x.big x24 (Int.toNat (↑(Int.toNat (↑(x15.v.off) : Int)) : Int)) (Int.toNat (↑(Int.toNat (↑(x15.v.bits) : Int)) : Int)) (Int.toNat (↑(Int.toNat (↑(x15.v.num) : Int)) : Int)) (x15.v.pk) (x15.v.pkn) (x15.v.dis) (Int.toNat (↑(Int.toNat (↑(x15.v.fed) : Int)) : Int)) (Int.toNat (↑(Int.toNat (↑(x15.v.pos) : Int)) : Int)) (x15.v.bv) (x15.v.bn) (x15.v.arr) (x15.v.prev)))) : Int) (0 : Int) (Sl.mk none 0 0)])) ∧ 
 (x.rb = x.rb) ∧ 
 ((↑(Int.toNat (x26.off : Int)) : Int) = (↑(x32.v.off) : Int)) ∧ 
 (x.sb = x.sb ∧ Off.lit 0 = Off.lit 0) ∧ 
 (Value.nilIface = Value.nilIface) ∧ (x.bb = x.bb ∧ Off.lit 0 = Off.lit 0) ∧ 
 ((↑(Int.toNat (x26.bits : Int)) : Int) = (↑(x32.v.bits) : Int)) ∧ 
 ((↑(Int.toNat (x26.num : Int)) : Int) = (↑(x32.v.num) : Int)) ∧ 
 (x.big = x.big) ∧ 
 (x26.pk = x32.v.pk ∧ x26.pkn = x32.v.pkn) ∧ 
 (x26.dis = x32.v.dis) ∧ 
 ((↑(Int.toNat (x26.fed : Int)) : Int) = (↑(x32.v.fed) : Int)) ∧ 
 (Value.pointer none = Value.pointer none) ∧ (x.bb = x.bb ∧ Off.lit 0 = Off.lit 0) ∧ 
 (Value.pointer none = Value.pointer none) ∧ (x.sb = x.sb) ∧ 
 (x.vs = x.vs ∧ ints (nats (ints (nats (ints (nats (ints x.bs)))))) = ints x.bs) ∧ 
 ((↑(Int.toNat (x26.off : Int)) : Int) = (↑(x32.v.off) : Int)) ∧ 
 (x26.prev = x32.v.prev) ∧ 
 (x.bb = x.bb) ∧ 
 (x.sb = x.sb ∧ Off.lit 0 = Off.lit 0) ∧ 
 ((↑(Int.toNat (x26.pos : Int)) : Int) = (↑(x32.v.pos) : Int)) ∧ 
 (x26.bv = x32.v.bv ∧ x26.bn = x32.v.bn) ∧ 
 ((512 : Nat) = (512 : Nat) ∧ x26.arr = x32.v.arr) ∧ 
 (x1 = x1) ∧ (x.rb = x.rb ∧ Off.lit 0 = Off.lit 0) ∧ 
 (x2 = x2) ∧ (vc = vc ∧ canonL lens = canonL lens) ∧ 
 (x3 = x3) ∧ (vr = vr ∧ rgL 0 extra = rgL 0 extra) ∧ 
 (x4 = x4) ∧ (true = true) ∧ (x5 = x5) ∧ 
 (x11.1.cv = x11.1.cv ∧ ints (nats (ints (nats (ints x11.1.ch)))) = ints x11.1.ch) ∧ 
 (x11.1.lv = x11.1.lv ∧ x11.1.lk = x11.1.lk) ∧ 
 ((↑(Int.toNat (↑(Int.toNat (x11.1.cm : Int)) : Int)) : Int) = (x11.1.cm : Int)) ∧ 
 ((↑(Int.toNat (↑(Int.toNat (x11.1.lm : Int)) : Int)) : Int) = (x11.1.lm : Int)) ∧ 
 ((↑(Int.toNat (↑(Int.toNat (x11.1.cb : Int)) : Int)) : Int) = (x11.1.cb : Int)) ∧ 
 ((↑(Int.toNat (↑(Int.toNat (x11.1.mb : Int)) : Int)) : Int) = (x11.1.mb : Int)) ∧ 
 ((↑(Int.toNat (↑(Int.toNat (x11.1.ns : Int)) : Int)) : Int) = (x11.1.ns : Int)) ∧ 
 (x6 = x6) ∧ (x13 = x13 ∧ rgL 0 (extraOf (rgL 0 extra)) = rgL 0 (extraOf (rgL 0 extra))) ∧ 
 (x7 = x7) ∧ (true = true) ∧ (x28 = x32.gx ∧ x15.gl ++ [Pt.mk x16.kind (↑(cd lens (RS.W (RS.mk x25 x15.rel x.rb x.sb x.bb x.vs (nats (ints (nats (ints x.bs)))) x.big x24 (Int.toNat (↑(Int.toNat (↑(x15.v.off) : Int)) : Int)) (Int.toNat (↑(Int.toNat (↑(x15.v.bits) : Int)) : Int)) (Int.toNat (↑(Int.toNat (↑(x15.v.num) : Int)) : Int)) (x15.v.pk) (x15.v.pkn) (x15.v.dis) (Int.toNat (↑(Int.toNat (↑(x15.v.fed) : Int)) : Int)) (Int.toNat (↑(Int.toNat (↑(x15.v.pos) : Int)) : Int)) (x15.v.bv) (x15.v.bn) (x15.v.arr) (x15.v.prev)))) : Int) (0 : Int) (Sl.mk none 0 0)] = x32.gl) ∧ 
 (True)))) ∧
 (∀ x26 : (RV × Nat), ((lacks (RS.mk x25 x15.rel x.rb x.sb x.bb x.vs (nats (ints (nats (ints x.bs)))) x.big x24 (Int.toNat (↑(Int.toNat (↑(x15.v.off) : Int)) : Int)) (Int.toNat (↑(Int.toNat (↑(x15.v.bits) : Int)) : Int)) (Int.toNat (↑(Int.toNat (↑(x15.v.num) : Int)) : Int)) (x15.v.pk) (x15.v.pkn) (x15.v.dis) (Int.toNat (↑(Int.toNat (↑(x15.v.fed) : Int)) : Int)) (Int.toNat (↑(Int.toNat (↑(x15.v.pos) : Int)) : Int)) (x15.v.bv) (x15.v.bn) (x15.v.arr) (x15.v.prev)) (cl lens (RS.W (RS.mk x25 x15.rel x.rb x.sb x.bb x.vs (nats (ints (nats (ints x.bs)))) x.big x24 (Int.toNat (↑(Int.toNat (↑(x15.v.off) : Int)) : Int)) (Int.toNat (↑(Int.toNat (↑(x15.v.bits) : Int)) : Int)) (Int.toNat (↑(Int.toNat (↑(x15.v.num) : Int)) : Int)) (x15.v.pk) (x15.v.pkn) (x15.v.dis) (Int.toNat (↑(Int.toNat (↑(x15.v.fed) : Int)) : Int)) (Int.toNat (↑(Int.toNat (↑(x15.v.pos) : Int)) : Int)) (x15.v.bv) (x15.v.bn) (x15.v.arr) (x15.v.prev)))) x26.1) → 
 (x25 = x25) ∧ 
 (x20 = x20) ∧ (x20 = x20) ∧ (x15.gx = x15.gx ∧ List.length x15.gl = List.length x15.gl) ∧ 
 ∃ x27 : (Y20 × RV), (ps53 lens (X53.mk x vl l vc vr extra) x27.1 x27.2) ∧ 
 (x15.gx = x27.1.gv ∧ x15.gl = x27.1.gl) ∧ 
 ((x15.i : Int) = wrong x27.1.st (List.length x27.1.gl)) ∧ 
 ((↑(Y53.P x15) : Int) = (↑((8 : Nat) * List.length x.bs - x27.1.left) : Int)) ∧ 
 (x.m = x.m) ∧ 
 (relLe x27.1.rel x15.rel) ∧ 
 (x.rb = x.rb) ∧ 
 ((x26.1.off : Int) = (x27.2.off : Int)) ∧ 
 (x.sb = x.sb ∧ Off.lit 0 = Off.lit 0) ∧ 
 (Value.nilIface = Value.nilIface) ∧ (x.bb = x.bb ∧ Off.lit 0 = Off.lit 0) ∧ 
 ((x26.1.bits : Int) = (x27.2.bits : Int)) ∧ 
 ((x26.1.num : Int) = (x27.2.num : Int)) ∧ 
 (x.big = x.big) ∧ 
 (x26.1.pk = x27.2.pk ∧ x26.1.pkn = x27.2.pkn) ∧ 
 (x26.1.dis = x27.2.dis) ∧ 
 ((x26.1.fed : Int) = (x27.2.fed : Int)) ∧ 
 (Value.pointer none = Value.pointer none) ∧ (x.bb = x.bb ∧ Off.lit 0 = Off.lit 0) ∧ 
 (Value.pointer none = Value.pointer none) ∧ (x.sb = x.sb) ∧ 
 (x.vs = x.vs ∧ ints (nats (ints (nats (ints x.bs)))) = ints x.bs) ∧ 
 ((x26.1.off : Int) = (x27.2.off : Int)) ∧ 
 (x26.1.prev = x27.2.prev) ∧ 
 (x.bb = x.bb) ∧ 
 (x.sb = x.sb ∧ Off.lit 0 = Off.lit 0) ∧ 
 ((x26.1.pos : Int) = (x27.2.pos : Int)) ∧ 
 (x26.1.bv = x27.2.bv ∧ x26.1.bn = x27.2.bn) ∧ 
 ((512 : Nat) = (512 : Nat) ∧ x26.1.arr = x27.2.arr) ∧ 
 (True))))) ∧
 (∀ x23 : (RV), ((took (RS.mk x22 x15.rel x.rb x.sb x.bb x.vs (nats (ints x.bs)) x.big x21 (Int.toNat (↑(x15.v.off) : Int)) (Int.toNat (↑(x15.v.bits) : Int)) (Int.toNat (↑(x15.v.num) : Int)) (x15.v.pk) (x15.v.pkn) (x15.v.dis) (Int.toNat (↑(x15.v.fed) : Int)) (Int.toNat (↑(x15.v.pos) : Int)) (x15.v.bv) (x15.v.bn) (x15.v.arr) (x15.v.prev)) (cl lens (RS.W (RS.mk x22 x15.rel x.rb x.sb x.bb x.vs (nats (ints x.bs)) x.big x21 (Int.toNat (↑(x15.v.off) : Int)) (Int.toNat (↑(x15.v.bits) : Int)) (Int.toNat (↑(x15.v.num) : Int)) (x15.v.pk) (x15.v.pkn) (x15.v.dis) (Int.toNat (↑(x15.v.fed) : Int)) (Int.toNat (↑(x15.v.pos) : Int)) (x15.v.bv) (x15.v.bn) (x15.v.arr) (x15.v.prev)))) x23) → 
 (x22 = x22) ∧ 
 (x18 = x18) ∧ (x20 = x20) ∧ (x20 = x20) ∧ (x20 = x20) ∧ (x19 = x19) ∧ (x18 = x18) ∧ ∀ x24 : (Nat), (x15.gx = x15.gx ∧ List.length x15.gl = List.length x15.gl) ∧ 
 (Value.slice (some (Addr.mk x24 0 none)) 1 1 = Value.slice (some (Addr.mk x24 0 none)) 1 1 ∧ (1 : Nat) = List.length [Pt.mk x16.kind (↑(cd lens (RS.W (RS.mk x22 x15.rel x.rb x.sb x.bb x.vs (nats (ints x.bs)) x.big x21 (Int.toNat (↑(x15.v.off) : Int)) (Int.toNat (↑(x15.v.bits) : Int)) (Int.toNat (↑(x15.v.num) : Int)) (x15.v.pk) (x15.v.pkn) (x15.v.dis) (Int.toNat (↑(x15.v.fed) : Int)) (Int.toNat (↑(x15.v.pos) : Int)) (x15.v.bv) (x15.v.bn) (x15.v.arr) (x15.v.prev)))) : Int) (0 : Int) (Sl.mk none 0 0)]) ∧ 
 (room (List.length x15.gl + List.length [Pt.mk x16.kind (↑(cd lens (RS.W (RS.mk x22 x15.rel x.rb x.sb x.bb x.vs (nats (ints x.bs)) x.big x21 (Int.toNat (↑(x15.v.off) : Int)) (Int.toNat (↑(x15.v.bits) : Int)) (Int.toNat (↑(x15.v.num) : Int)) (x15.v.pk) (x15.v.pkn) (x15.v.dis) (Int.toNat (↑(x15.v.fed) : Int)) (Int.toNat (↑(x15.v.pos) : Int)) (x15.v.bv) (x15.v.bn) (x15.v.arr) (x15.v.prev)))) : Int) (0 : Int) (Sl.mk none 0 0)]) 48) ∧ 
 ∀ x25 : (Value), (x1 = x1) ∧ ∃ x26 : (Nat), ∀ x27 : (Nat → Option Obj), (rsW (RS.mk x27 x15.rel x.rb x.sb x.bb x.vs (nats (ints (nats (ints x.bs)))) x.big x26 (Int.toNat (x23.off : Int)) (Int.toNat (x23.bits : Int)) (Int.toNat (x23.num : Int)) x23.pk x23.pkn x23.dis (Int.toNat (x23.fed : Int)) (Int.toNat (x23.pos : Int)) x23.bv x23.bn x23.arr x23.prev)) ∧ 
 (x.rb = x.rb ∧ Off.lit 0 = Off.lit 0) ∧ 
 (x27 = x27) ∧ 
 (relLe x15.rel x15.rel) ∧ 
 (x.rb = x.rb) ∧ 
 ((x23.off : Int) = (↑(Int.toNat (x23.off : Int)) : Int)) ∧ 
 (x.sb = x.sb ∧ Off.lit 0 = Off.lit 0) ∧ 
 (Value.nilIface = Value.nilIface) ∧ (x.bb = x.bb ∧ Off.lit 0 = Off.lit 0) ∧ 
 ((x23.bits : Int) = (↑(Int.toNat (x23.bits : Int)) : Int)) ∧ 
 ((x23.num : Int) = (↑(Int.toNat (x23.num : Int)) : Int)) ∧ 
 (x.big = x.big) ∧ 
 (x23.pk = x23.pk ∧ x23.pkn = x23.pkn) ∧ 
 (x23.dis = x23.dis) ∧ 
 ((x23.fed : Int) = (↑(Int.toNat (x23.fed : Int)) : Int)) ∧ 
 (Value.pointer none = Value.pointer none) ∧ (x.bb = x.bb ∧ Off.lit 0 = Off.lit 0) ∧ 
 (Value.pointer none = Value.pointer none) ∧ (x.sb = x.sb) ∧ 
 (x.vs = x.vs ∧ ints (nats (ints x.bs)) = ints (nats (ints (nats (ints x.bs))))) ∧ 
 ((x23.off : Int) = (↑(Int.toNat (x23.off : Int)) : Int)) ∧ 
 (x23.prev = x23.prev) ∧ 
 (x.bb = x.bb) ∧ 
 (x.sb = x.sb ∧ Off.lit 0 = Off.lit 0) ∧ 
 ((x23.pos : Int) = (↑(Int.toNat (x23.pos : Int)) : Int)) ∧ 
 (x23.bv = x23.bv ∧ x23.bn = x23.bn) ∧ 
 ((512 : Nat) = (512 : Nat) ∧ x23.arr = x23.arr) ∧ 
 ∀ x28 : (Unit), ((True) → 
 (x27 = x27) ∧ 
 (inI64 ((x15.i : Int) + (1 : Int))) ∧ 
 ∃ x29 : (Y53), (ph53 lens (X53.mk x vl l vc vr extra) (noteS (SV.segs (SV.ro 215 x13 (rgL 0 (extraOf (rgL 0 extra))))) x11.2) x29 ∧ List.length l - x29.i < List.length l - x15.i) ∧ 
 (x25 = x29.gx ∧ List.length x15.gl + List.length [Pt.mk x16.kind (↑(cd lens (RS.W (RS.mk x22 x15.rel x.rb x.sb x.bb x.vs (nats (ints x.bs)) x.big x21 (Int.toNat (↑(x15.v.off) : Int)) (Int.toNat (↑(x15.v.bits) : Int)) (Int.toNat (↑(x15.v.num) : Int)) (x15.v.pk) (x15.v.pkn) (x15.v.dis) (Int.toNat (↑(x15.v.fed) : Int)) (Int.toNat (↑(x15.v.pos) : Int)) (x15.v.bv) (x15.v.bn) (x15.v.arr) (x15.v.prev)))) : Int) (0 : Int) (Sl.mk none 0 0)] = List.length x29.gl) ∧ 
 ((x15.i : Int) + (1 : Int) = (x29.i : Int)) ∧ 
 ((x26 : Int) = (↑(Y53.P x29) : Int)) ∧ 
 (x.m = x.m) ∧ (relLe x29.rel (relAdd x15.rel 36 (Value.slice (some (Addr.mk x24 0 none)) 1 1) [Pt.mk x16.kind (↑(cd lens (RS.W (RS.mk x22 x15.rel x.rb x.sb x.bb x.vs (nats (ints x.bs)) x.big x21 (Int.toNat (↑(x15.v.off) : Int)) (Int.toNat (↑(x15.v.bits) : Int)) (Int.toNat (↑(x15.v.num) : Int)) (x15.v.pk) (x15.v.pkn) (x15.v.dis) (Int.toNat (↑(x15.v.fed) : Int)) (Int.toNat (↑(x15.v.pos) : Int)) (x15.v.bv) (x15.v.bn) (x15.v.arr) (x15.v.prev)))) : Int) (0 : Int) (Sl.mk none 0 0)])) ∧ 
 (x.rb = x.rb) ∧ 
 ((↑(Int.toNat (x23.off : Int)) : Int) = (↑(x29.v.off) : Int)) ∧ 
 (x.sb = x.sb ∧ Off.lit 0 = Off.lit 0) ∧ 
 (Value.nilIface = Value.nilIface) ∧ (x.bb = x.bb ∧ Off.lit 0 = Off.lit 0) ∧ 
 ((↑(Int.toNat (x23.bits : Int)) : Int) = (↑(x29.v.bits) : Int)) ∧ 
 ((↑(Int.toNat (x23.num : Int)) : Int) = (↑(x29.v.num) : Int)) ∧ 
 (x.big = x.big) ∧ 
 (x23.pk = x29.v.pk ∧ x23.pkn = x29.v.pkn) ∧ 
 (x23.dis = x29.v.dis) ∧ 
 ((↑(Int.toNat (x23.fed : Int)) : Int) = (↑(x29.v.fed) : Int)) ∧ 
 (Value.pointer none = Value.pointer none) ∧ (x.bb = x.bb ∧ Off.lit 0 = Off.lit 0) ∧ 
 (Value.pointer none = Value.pointer none) ∧ (x.sb = x.sb) ∧ 
 (x.vs = x.vs ∧ ints (nats (ints (nats (ints x.bs)))) = ints x.bs) ∧ 
 ((↑(Int.toNat (x23.off : Int)) : Int) = (↑(x29.v.off) : Int)) ∧ 
 (x23.prev = x29.v.prev) ∧ 
 (x.bb = x.bb) ∧ 
 (x.sb = x.sb ∧ Off.lit 0 = Off.lit 0) ∧ 
 ((↑(Int.toNat (x23.pos : Int)) : Int) = (↑(x29.v.pos) : Int)) ∧ 
 (x23.bv = x29.v.bv ∧ x23.bn = x29.v.bn) ∧ 
 ((512 : Nat) = (512 : Nat) ∧ x23.arr = x29.v.arr) ∧ 
 (x1 = x1) ∧ (x.rb = x.rb ∧ Off.lit 0 = Off.lit 0) ∧ 
 (x2 = x2) ∧ (vc = vc ∧ canonL lens = canonL lens) ∧ 
 (x3 = x3) ∧ (vr = vr ∧ rgL 0 extra = rgL 0 extra) ∧ 
 (x4 = x4) ∧ (true = true) ∧ (x5 = x5) ∧ 
 (x11.1.cv = x11.1.cv ∧ ints (nats (ints x11.1.ch)) = ints x11.1.ch) ∧ 
 (x11.1.lv = x11.1.lv ∧ x11.1.lk = x11.1.lk) ∧ 
 ((↑(Int.toNat (x11.1.cm : Int)) : Int) = (x11.1.cm : Int)) ∧ 
 ((↑(Int.toNat (x11.1.lm : Int)) : Int) = (x11.1.lm : Int)) ∧ 
 ((↑(Int.toNat (x11.1.cb : Int)) : Int) = (x11.1.cb : Int)) ∧ 
 ((↑(Int.toNat (x11.1.mb : Int)) : Int) = (x11.1.mb : Int)) ∧ 
 ((↑(Int.toNat (x11.1.ns : Int)) : Int) = (x11.1.ns : Int)) ∧ 
 (x6 = x6) ∧ (x13 = x13 ∧ rgL 0 (extraOf (rgL 0 extra)) = rgL 0 (extraOf (rgL 0 extra))) ∧ 
 (x7 = x7) ∧ (true = true) ∧ (x25 = x29.gx ∧ x15.gl ++ [Pt.mk x16.kind (↑(cd lens (RS.W (RS.mk x22 x15.rel x.rb x.sb x.bb x.vs (nats (ints x.bs)) x.big x21 (Int.toNat (↑(x15.v.off) : Int)) (Int.toNat (↑(x15.v.bits) : Int)) (Int.toNat (↑(x15.v.num) : Int)) (x15.v.pk) (x15.v.pkn) (x15.v.dis) (Int.toNat (↑(x15.v.fed) : Int)) (Int.toNat (↑(x15.v.pos) : Int)) (x15.v.bv) (x15.v.bn) (x15.v.arr) (x15.v.prev)))) : Int) (0 : Int) (Sl.mk none 0 0)] = x29.gl) ∧ 
 (True)))))
 (Br (x16.kind == (2 : Int))
 ((x1 = x1) ∧ (x6 = x6) ∧ ∃ x21 : (Nat), ∀ x22 : (Nat → Option Obj), (c106OK (RS.mk x22 x15.rel x.rb x.sb x.bb x.vs (nats (ints x.bs)) x.big x21 (Int.toNat (↑(x15.v.off) : Int)) (Int.toNat (↑(x15.v.bits) : Int)) (Int.toNat (↑(x15.v.num) : Int)) (x15.v.pk) (x15.v.pkn) (x15.v.dis) (Int.toNat (↑(x15.v.fed) : Int)) (Int.toNat (↑(x15.v.pos) : Int)) (x15.v.bv) (x15.v.bn) (x15.v.arr) (x15.v.prev)) lens (DC.mk x5 x11.1.cv (nats (ints x11.1.ch)) x11.1.lv x11.1.lk (Int.toNat (x11.1.cm : Int)) (Int.toNat (x11.1.lm : Int)) (Int.toNat (x11.1.cb : Int)) (Int.toNat (x11.1.mb : Int)) (Int.toNat (x11.1.ns : Int))) (extraOf (rgL 0 (extraOf (rgL 0 extra))))) ∧ 
 (x.rb = x.rb ∧ Off.lit 0 = Off.lit 0) ∧ 
 (x5 = x5 ∧ Off.lit 0 = Off.lit 0) ∧ 
 (x13 = x13 ∧ rgL 0 (extraOf (rgL 0 extra)) = rgL 0 (extraOf (rgL 0 (extraOf (rgL 0 extra))))) ∧ 
 (x22 = x22) ∧ 
 (relLe x15.rel x15.rel) ∧ 
 (x.rb = x.rb) ∧ 
 ((↑(x15.v.off) : Int) = (↑(Int.toNat (↑(x15.v.off) : Int)) : Int)) ∧ 
 (x.sb = x.sb ∧ Off.lit 0 = Off.lit 0) ∧ 
 (Value.nilIface = Value.nilIface) ∧ (x.bb = x.bb ∧ Off.lit 0 = Off.lit 0) ∧ 
 ((↑(x15.v.bits) : Int) = (↑(Int.toNat (↑(x15.v.bits) : Int)) : Int)) ∧ 
 ((↑(x15.v.num) : Int) = (↑(Int.toNat (↑(x15.v.num) : Int)) : Int)) ∧ 
 (x.big = x.big) ∧ 
 (x15.v.pk = x15.v.pk ∧ x15.v.pkn = x15.v.pkn) ∧ 
 (x15.v.dis = x15.v.dis) ∧ 
 ((↑(x15.v.fed) : Int) = (↑(Int.toNat (↑(x15.v.fed) : Int)) : Int)) ∧ 
 (Value.pointer none = Value.pointer none) ∧ (x.bb = x.bb ∧ Off.lit 0 = Off.lit 0) ∧ 
 (Value.pointer none = Value.pointer none) ∧ (x.sb = x.sb) ∧ 
 (x.vs = x.vs ∧ ints x.bs = ints (nats (ints x.bs))) ∧ 
 ((↑(x15.v.off) : Int) = (↑(Int.toNat (↑(x15.v.off) : Int)) : Int)) ∧ 
 (x15.v.prev = x15.v.prev) ∧ 
 (x.bb = x.bb) ∧ 
 (x.sb = x.sb ∧ Off.lit 0 = Off.lit 0) ∧ 
 ((↑(x15.v.pos) : Int) = (↑(Int.toNat (↑(x15.v.pos) : Int)) : Int)) ∧ 
 (x15.v.bv = x15.v.bv ∧ x15.v.bn = x15.v.bn) ∧ 
 ((512 : Nat) = (512 : Nat) ∧ x15.v.arr = x15.v.arr) ∧ 
 (x5 = x5) ∧ 
 (x11.1.cv = x11.1.cv ∧ ints x11.1.ch = ints (nats (ints x11.1.ch))) ∧ 
 (x11.1.lv = x11.1.lv ∧ x11.1.lk = x11.1.lk) ∧ 
 ((x11.1.cm : Int) = (↑(Int.toNat (x11.1.cm : Int)) : Int)) ∧ 
 ((x11.1.lm : Int) = (↑(Int.toNat (x11.1.lm : Int)) : Int)) ∧ 
 ((x11.1.cb : Int) = (↑(Int.toNat (x11.1.cb : Int)) : Int)) ∧ 
 ((x11.1.mb : Int) = (↑(Int.toNat (x11.1.mb : Int)) : Int)) ∧ 
 ((x11.1.ns : Int) = (↑(Int.toNat (x11.1.ns : Int)) : Int)) ∧ 
 (∀ x23 : (RV), ((took (RS.mk x22 x15.rel x.rb x.sb x.bb x.vs (nats (ints x.bs)) x.big x21 (Int.toNat (↑(x15.v.off) : Int)) (Int.toNat (↑(x15.v.bits) : Int)) (Int.toNat (↑(x15.v.num) : Int)) (x15.v.pk) (x15.v.pkn) (x15.v.dis) (Int.toNat (↑(x15.v.fed) : Int)) (Int.toNat (↑(x15.v.pos) : Int)) (x15.v.bv) (x15.v.bn) (x15.v.arr) (x15.v.prev)) (cl lens (RS.W (RS.mk x22 x15.rel x.rb x.sb x.bb x.vs (nats (ints x.bs)) x.big x21 (Int.toNat (↑(x15.v.off) : Int)) (Int.toNat (↑(x15.v.bits) : Int)) (Int.toNat (↑(x15.v.num) : Int)) (x15.v.pk) (x15.v.pkn) (x15.v.dis) (Int.toNat (↑(x15.v.fed) : Int)) (Int.toNat (↑(x15.v.pos) : Int)) (x15.v.bv) (x15.v.bn) (x15.v.arr) (x15.v.prev))) + List.getD (extraOf (rgL 0 (extraOf (rgL 0 extra)))) (cd lens (RS.W (RS.mk x22 x15.rel x.rb x.sb x.bb x.vs (nats (ints x.bs)) x.big x21 (Int.toNat (↑(x15.v.off) : Int)) (Int.toNat (↑(x15.v.bits) : Int)) (Int.toNat (↑(x15.v.num) : Int)) (x15.v.pk) (x15.v.pkn) (x15.v.dis) (Int.toNat (↑(x15.v.fed) : Int)) (Int.toNat (↑(x15.v.pos) : Int)) (x15.v.bv) (x15.v.bn) (x15.v.arr) (x15.v.prev)))) 0) x23) → 
 (x22 = x22) ∧ 
 (x18 = x18) ∧ (x20 = x20) ∧ (x20 = x20) ∧ (x20 = x20) ∧ (x19 = x19) ∧ (x18 = x18) ∧ ∀ x24 : (Nat), (x15.gx = x15.gx ∧ List.length x15.gl = List.length x15.gl) ∧ 
 (Value.slice (some (Addr.mk x24 0 none)) 1 1 = Value.slice (some (Addr.mk x24 0 none)) 1 1 ∧ (1 : Nat) = List.length [Pt.mk x16.kind (↑(sum2 (List.take (cd lens (RS.W (RS.mk x22 x15.rel x.rb x.sb x.bb x.vs (nats (ints x.bs)) x.big x21 (Int.toNat (↑(x15.v.off) : Int)) (Int.toNat (↑(x15.v.bits) : Int)) (Int.toNat (↑(x15.v.num) : Int)) (x15.v.pk) (x15.v.pkn) (x15.v.dis) (Int.toNat (↑(x15.v.fed) : Int)) (Int.toNat (↑(x15.v.pos) : Int)) (x15.v.bv) (x15.v.bn) (x15.v.arr) (x15.v.prev)))) (extraOf (rgL 0 (extraOf (rgL 0 extra))))) + RS.W (RS.mk x22 x15.rel x.rb x.sb x.bb x.vs (nats (ints x.bs)) x.big x21 (Int.toNat (↑(x15.v.off) : Int)) (Int.toNat (↑(x15.v.bits) : Int)) (Int.toNat (↑(x15.v.num) : Int)) (x15.v.pk) (x15.v.pkn) (x15.v.dis) (Int.toNat (↑(x15.v.fed) : Int)) (Int.toNat (↑(x15.v.pos) : Int)) (x15.v.bv) (x15.v.bn) (x15.v.arr) (x15.v.prev)) / (2 : Nat) ^ cl lens (RS.W (RS.mk x22 x15.rel x.rb x.sb x.bb x.vs (nats (ints x.bs)) x.big x21 (Int.toNat (↑(x15.v.off) : Int)) (Int.toNat (↑(x15.v.bits) : Int)) (Int.toNat (↑(x15.v.num) : Int)) (x15.v.pk) (x15.v.pkn) (x15.v.dis) (Int.toNat (↑(x15.v.fed) : Int)) (Int.toNat (↑(x15.v.pos) : Int)) (x15.v.bv) (x15.v.bn) (x15.v.arr) (x15.v.prev))) % (2 : Nat) ^ List.getD (extraOf (rgL 0 (extraOf (rgL 0 extra)))) (cd lens (RS.W (RS.mk x22 x15.rel x.rb x.sb x.bb x.vs (nats (ints x.bs)) x.big x21 (Int.toNat (↑(x15.v.off) : Int)) (Int.toNat (↑(x15.v.bits) : Int)) (Int.toNat (↑(x15.v.num) : Int)) (x15.v.pk) (x15.v.pkn) (x15.v.dis) (Int.toNat (↑(x15.v.fed) : Int)) (Int.toNat (↑(x15.v.pos) : Int)) (x15.v.bv) (x15.v.bn) (x15.v.arr) (x15.v.prev)))) 0) : Int) (0 : Int) (Sl.mk none 0 0)]) ∧ 
 (room (List.length x15.gl + List.length [Pt.mk x16.kind (↑(sum2 (List.take (cd lens (RS.W (RS.mk x22 x15.rel x.rb x.sb x.bb x.vs (nats (ints x.bs)) x.big x21 (Int.toNat (↑(x15.v.off) : Int)) (Int.toNat (↑(x15.v.bits) : Int)) (Int.toNat (↑(x15.v.num) : Int)) (x15.v.pk) (x15.v.pkn) (x15.v.dis) (Int.toNat (↑(x15.v.fed) : Int)) (Int.toNat (↑(x15.v.pos) : Int)) (x15.v.bv) (x15.v.bn) (x15.v.arr) (x15.v.prev)))) (extraOf (rgL 0 (extraOf (rgL 0 extra))))) + RS.W (RS.mk x22 x15.rel x.rb x.sb x.bb x.vs (nats (ints x.bs)) x.big x21 (Int.toNat (↑(x15.v.off) : Int)) (Int.toNat (↑(x15.v.bits) : Int)) (Int.toNat (↑(x15.v.num) : Int)) (x15.v.pk) (x15.v.pkn) (x15.v.dis) (Int.toNat (↑(x15.v.fed) : Int)) (Int.toNat (↑(x15.v.pos) : Int)) (x15.v.bv) (x15.v.bn) (x15.v.arr) (x15.v.prev)) / (2 : Nat) ^ cl lens (RS.W (RS.mk x22 x15.rel x.rb x.sb x.bb x.vs (nats (ints x.bs)) x.big x21 (Int.toNat (↑(x15.v.off) : Int)) (Int.toNat (↑(x15.v.bits) : Int)) (Int.toNat (↑(x15.v.num) : Int)) (x15.v.pk) (x15.v.pkn) (x15.v.dis) (Int.toNat (↑(x15.v.fed) : Int)) (Int.toNat (↑(x15.v.pos) : Int)) (x15.v.bv) (x15.v.bn) (x15.v.arr) (x15.v.prev))) % (2 : Nat) ^ List.getD (extraOf (rgL 0 (extraOf (rgL 0 extra)))) (cd lens (RS.W (RS.mk x22 x15.rel x.rb x.sb x.bb x.vs (nats (ints x.bs)) x.big x21 (Int.toNat (↑(x15.v.off) : Int)) (Int.toNat (↑(x15.v.bits) : Int)) (Int.toNat (↑(x15.v.num) : Int)) (x15.v.pk) (x15.v.pkn) (x15.v.dis) (Int.toNat (↑(x15.v.fed) : Int)) (Int.toNat (↑(x15.v.pos) : Int)) (x15.v.bv) (x15.v.bn) (x15.v.arr) (x15.v.prev)))) 0) : Int) (0 : Int) (Sl.mk none 0 0)]) 48) ∧ 
 ∀ x25 : (Value), (x1 = x1) ∧ ∃ x26 : (Nat), ∀ x27 : (Nat → Option Obj), (rsW (RS.mk x27 x15.rel x.rb x.sb x.bb x.vs (nats (ints (nats (ints x.bs)))) x.big x26 (Int.toNat (x23.off : Int)) (Int.toNat (x23.bits : Int)) (Int.toNat (x23.num : Int)) x23.pk x23.pkn x23.dis (Int.toNat (x23.fed : Int)) (Int.toNat (x23.pos : Int)) x23.bv x23.bn x23.arr x23.prev)) ∧ 
 (x.rb = x.rb ∧ Off.lit 0 = Off.lit 0) ∧ 
 (x27 = x27) ∧ 
 (relLe x15.rel x15.rel) ∧ 
 (x.rb = x.rb) ∧ 
 ((x23.off : Int) = (↑(Int.toNat (x23.off : Int)) : Int)) ∧ 
 (x.sb = x.sb ∧ Off.lit 0 = Off.lit 0) ∧ 
 (Value.nilIface = Value.nilIface) ∧ (x.bb = x.bb ∧ Off.lit 0 = Off.lit 0) ∧ 
 ((x23.bits : Int) = (↑(Int.toNat (x23.bits : Int)) : Int)) ∧ 
 ((x23.num : Int) = (↑(Int.toNat (x23.num : Int)) : Int)) ∧ 
 (x.big = x.big) ∧ 
 (x23.pk = x23.pk ∧ x23.pkn = x23.pkn) ∧ 
 (x23.dis = x23.dis) ∧ 
 ((x23.fed : Int) = (↑(Int.toNat (x23.fed : Int)) : Int)) ∧ 
 (Value.pointer none = Value.pointer none) ∧ (x.bb = x.bb ∧ Off.lit 0 = Off.lit 0) ∧ 
 (Value.pointer none = Value.pointer none) ∧ (x.sb = x.sb) ∧ 
 (x.vs = x.vs ∧ ints (nats (ints x.bs)) = ints (nats (ints (nats (ints x.bs))))) ∧ 
 ((x23.off : Int) = (↑(Int.toNat (x23.off : Int)) : Int)) ∧ 
 (x23.prev = x23.prev) ∧ 
 (x.bb = x.bb) ∧ 
 (x.sb = x.sb ∧ Off.lit 0 = Off.lit 0) ∧ 
 ((x23.pos : Int) = (↑(Int.toNat (x23.pos : Int)) : Int)) ∧ 
 (x23.bv = x23.bv ∧ x23.bn = x23.bn) ∧ 
 ((512 : Nat) = (512 : Nat) ∧ x23.arr = x23.arr) ∧ 
 ∀ x28 : (Unit), ((True) → 
 (x27 = x27) ∧ 
 (inI64 ((x15.i : Int) + (1 : Int))) ∧ 
 ∃ x29 : (Y53), (ph53 lens (X53.mk x vl l vc vr extra) (noteS (SV.segs (SV.ro 215 x13 (rgL 0 (extraOf (rgL 0 extra))))) x11.2) x29 ∧ List.length l - x29.i < List.length l - x15.i) ∧ 
 (x25 = x29.gx ∧ List.length x15.gl + List.length [Pt.mk x16.kind (↑(sum2 (List.take (cd lens (RS.W (RS.mk x22 x15.rel x.rb x.sb x.bb x.vs (nats (ints x.bs)) x.big x21 (Int.toNat (↑(x15.v.off) : Int)) (Int.toNat (↑(x15.v.bits) : Int)) (Int.toNat (↑(x15.v.num) : Int)) (x15.v.pk) (x15.v.pkn) (x15.v.dis) (Int.toNat (↑(x15.v.fed) : Int)) (Int.toNat (↑(x15.v.pos) : Int)) (x15.v.bv) (x15.v.bn) (x15.v.arr) (x15.v.prev)))) (extraOf (rgL 0 (extraOf (rgL 0 extra))))) + RS.W (RS.mk x22 x15.rel x.rb x.sb x.bb x.vs (nats (ints x.bs)) x.big x21 (Int.toNat (↑(x15.v.off) : Int)) (Int.toNat (↑(x15.v.bits) : Int)) (Int.toNat (↑(x15.v.num) : Int)) (x15.v.pk) (x15.v.pkn) (x15.v.dis) (Int.toNat (↑(x15.v.fed) : Int)) (Int.toNat (↑(x15.v.pos) : Int)) (x15.v.bv) (x15.v.bn) (x15.v.arr) (x15.v.prev)) / (2 : Nat) ^ cl lens (RS.W (RS.mk x22 x15.rel x.rb x.sb x.bb x.vs (nats (ints x.bs)) x.big x21 (Int.toNat (↑(x15.v.off) : Int)) (Int.toNat (↑(x15.v.bits) : Int)) (Int.toNat (↑(x15.v.num) : Int)) (x15.v.pk) (x15.v.pkn) (x15.v.dis) (Int.toNat (↑(x15.v.fed) : Int)) (Int.toNat (↑(x15.v.pos) : Int)) (x15.v.bv) (x15.v.bn) (x15.v.arr) (x15.v.prev))) % (2 : Nat) ^ List.getD (extraOf (rgL 0 (extraOf (rgL 0 extra)))) (cd lens (RS.W (RS.mk x22 x15.rel x.rb x.sb x.bb x.vs (nats (ints x.bs)) x.big x21 (Int.toNat (↑(x15.v.off) : Int)) (Int.toNat (↑(x15.v.bits) : Int)) (Int.toNat (↑(x15.v.num) : Int)) (x15.v.pk) (x15.v.pkn) (x15.v.dis) (Int.toNat (↑(x15.v.fed) : Int)) (Int.toNat (↑(x15.v.pos) : Int)) (x15.v.bv) (x15.v.bn) (x15.v.arr) (x15.v.prev)))) 0) : Int) (0 : Int) (Sl.mk none 0 0)] = List.length x29.gl) ∧ 
 ((x15.i : Int) + (1 : Int) = (x29.i : Int)) ∧ 
 ((x26 : Int) = (↑(Y53.P x29) : Int)) ∧ 
 (x.m = x.m) ∧ (relLe x29.rel (relAdd x15.rel 36 (Value.slice (some (Addr.mk x24 0 none)) 1 1) [Pt.mk x16.kind (↑(sum2 (List.take (cd lens (RS.W (RS.mk x22 x15.rel x.rb x.sb x.bb x.vs (nats (ints x.bs)) x.big x21 (Int.toNat (↑(x15.v.off) : Int)) (Int.toNat (↑(x15.v.bits) : Int)) (Int.toNat (↑(x15.v.num) : Int)) (x15.v.pk) (x15.v.pkn) (x15.v.dis) (Int.toNat (↑(x15.v.fed) : Int)) (Int.toNat (↑(x15.v.pos) : Int)) (x15.v.bv) (x15.v.bn) (x15.v.arr) (x15.v.prev)))) (extraOf (rgL 0 (extraOf (rgL 0 extra))))) + RS.W (RS.mk x22 x15.rel x.rb x.sb x.bb x.vs (nats (ints x.bs)) x.big x21 (Int.toNat (↑(x15.v.off) : Int)) (Int.toNat (↑(x15.v.bits) : Int)) (Int.toNat (↑(x15.v.num) : Int)) (x15.v.pk) (x15.v.pkn) (x15.v.dis) (Int.toNat (↑(x15.v.fed) : Int)) (Int.toNat (↑(x15.v.pos) : Int)) (x15.v.bv) (x15.v.bn) (x15.v.arr) (x15.v.prev)) / (2 : Nat) ^ cl lens (RS.W (RS.mk x22 x15.rel x.rb x.sb x.bb x.vs (nats (ints x.bs)) x.big x21 (Int.toNat (↑(x15.v.off) : Int)) (Int.toNat (↑(x15.v.bits) : Int)) (Int.toNat (↑(x15.v.num) : Int)) (x15.v.pk) (x15.v.pkn) (x15.v.dis) (Int.toNat (↑(x15.v.fed) : Int)) (Int.toNat (↑(x15.v.pos) : Int)) (x15.v.bv) (x15.v.bn) (x15.v.arr) (x15.v.prev))) % (2 : Nat) ^ List.getD (extraOf (rgL 0 (extraOf (rgL 0 extra)))) (cd lens (RS.W (RS.mk x22 x15.rel x.rb x.sb x.bb x.vs (nats (ints x.bs)) x.big x21 (Int.toNat (↑(x15.v.off) : Int)) (Int.toNat (↑(x15.v.bits) : Int)) (Int.toNat (↑(x15.v.num) : Int)) (x15.v.pk) (x15.v.pkn) (x15.v.dis) (Int.toNat (↑(x15.v.fed) : Int)) (Int.toNat (↑(x15.v.pos) : Int)) (x15.v.bv) (x15.v.bn) (x15.v.arr) (x15.v.prev)))) 0) : Int) (0 : Int) (Sl.mk none 0 0)])) ∧ 
 (x.rb = x.rb) ∧ 
 ((↑(Int.toNat (x23.off : Int)) : Int) = (↑(x29.v.off) : Int)) ∧ 
 (x.sb = x.sb ∧ Off.lit 0 = Off.lit 0) ∧ 
 (Value.nilIface = Value.nilIface) ∧ (x.bb = x.bb ∧ Off.lit 0 = Off.lit 0) ∧ 
 ((↑(Int.toNat (x23.bits : Int)) : Int) = (↑(x29.v.bits) : Int)) ∧ 
 ((↑(Int.toNat (x23.num : Int)) : Int) = (↑(x29.v.num) : Int)) ∧ 
 (x.big = x.big) ∧ 
 (x23.pk = x29.v.pk ∧ x23.pkn = x29.v.pkn) ∧ 
 (x23.dis = x29.v.dis) ∧ 
 ((↑(Int.toNat (x23.fed : Int)) : Int) = (↑(x29.v.fed) : Int)) ∧ 
 (Value.pointer none = Value.pointer none) ∧ (x.bb = x.bb ∧ Off.lit 0 = Off.lit 0) ∧ 
 (Value.pointer none = Value.pointer none) ∧ (x.sb = x.sb) ∧ 
 (x.vs = x.vs ∧ ints (nats (ints (nats (ints x.bs)))) = ints x.bs) ∧ 
 ((↑(Int.toNat (x23.off : Int)) : Int) = (↑(x29.v.off) : Int)) ∧ 
 (x23.prev = x29.v.prev) ∧ 
 (x.bb = x.bb) ∧ 
 (x.sb = x.sb ∧ Off.lit 0 = Off.lit 0) ∧ 
 ((↑(Int.toNat (x23.pos : Int)) : Int) = (↑(x29.v.pos) : Int)) ∧ 
 (x23.bv = x29.v.bv ∧ x23.bn = x29.v.bn) ∧ 
 ((512 : Nat) = (512 : Nat) ∧ x23.arr = x29.v.arr) ∧ 
 (x1 = x1) ∧ (x.rb = x.rb ∧ Off.lit 0 = Off.lit 0) ∧ 
 (x2 = x2) ∧ (vc = vc ∧ canonL lens = canonL lens) ∧ 
 (x3 = x3) ∧ (vr = vr ∧ rgL 0 extra = rgL 0 extra) ∧ 
 (x4 = x4) ∧ (true = true) ∧ (x5 = x5) ∧ 
 (x11.1.cv = x11.1.cv ∧ ints (nats (ints x11.1.ch)) = ints x11.1.ch) ∧ 
 (x11.1.lv = x11.1.lv ∧ x11.1.lk = x11.1.lk) ∧ 
 ((↑(Int.toNat (x11.1.cm : Int)) : Int) = (x11.1.cm : Int)) ∧ 
 ((↑(Int.toNat (x11.1.lm : Int)) : Int) = (x11.1.lm : Int)) ∧ 
 ((↑(Int.toNat (x11.1.cb : Int)) : Int) = (x11.1.cb : Int)) ∧ 
 ((↑(Int.toNat (x11.1.mb : Int)) : Int) = (x11.1.mb : Int)) ∧ 
 ((↑(Int.toNat (x11.1.ns : Int)) : Int) = (x11.1.ns : Int)) ∧ 
 (x6 = x6) ∧ (x13 = x13 ∧ rgL 0 (extraOf (rgL 0 extra)) = rgL 0 (extraOf (rgL 0 extra))) ∧ 
 (x7 = x7) ∧ (true = true) ∧ (x25 = x29.gx ∧ x15.gl ++ [Pt.mk x16.kind (↑(sum2 (List.take (cd lens (RS.W (RS.mk x22 x15.rel x.rb x.sb x.bb x.vs (nats (ints x.bs)) x.big x21 (Int.toNat (↑(x15.v.off) : Int)) (Int.toNat (↑(x15.v.bits) : Int)) (Int.toNat (↑(x15.v.num) : Int)) (x15.v.pk) (x15.v.pkn) (x15.v.dis) (Int.toNat (↑(x15.v.fed) : Int)) (Int.toNat (↑(x15.v.pos) : Int)) (x15.v.bv) (x15.v.bn) (x15.v.arr) (x15.v.prev)))) (extraOf (rgL 0 (extraOf (rgL 0 extra))))) + RS.W (RS.mk x22 x15.rel x.rb x.sb x.bb x.vs (nats (ints x.bs)) x.big x21 (Int.toNat (↑(x15.v.off) : Int)) (Int.toNat (↑(x15.v.bits) : Int)) (Int.toNat (↑(x15.v.num) : Int)) (x15.v.pk) (x15.v.pkn) (x15.v.dis) (Int.toNat (↑(x15.v.fed) : Int)) (Int.toNat (↑(x15.v.pos) : Int)) (x15.v.bv) (x15.v.bn) (x15.v.arr) (x15.v.prev)) / (2 : Nat) ^ cl lens (RS.W (RS.mk x22 x15.rel x.rb x.sb x.bb x.vs (nats (ints x.bs)) x.big x21 (Int.toNat (↑(x15.v.off) : Int)) (Int.toNat (↑(x15.v.bits) : Int)) (Int.toNat (↑(x15.v.num) : Int)) (x15.v.pk) (x15.v.pkn) (x15.v.dis) (Int.toNat (↑(x15.v.fed) : Int)) (Int.toNat (↑(x15.v.pos) : Int)) (x15.v.bv) (x15.v.bn) (x15.v.arr) (x15.v.prev))) % (2 : Nat) ^ List.getD (extraOf (rgL 0 (extraOf (rgL 0 extra)))) (cd lens (RS.W (RS.mk x22 x15.rel x.rb x.sb x.bb x.vs (nats (ints x.bs)) x.big x21 (Int.toNat (↑(x15.v.off) : Int)) (Int.toNat (↑(x15.v.bits) : Int)) (Int.toNat (↑(x15.v.num) : Int)) (x15.v.pk) (x15.v.pkn) (x15.v.dis) (Int.toNat (↑(x15.v.fed) : Int)) (Int.toNat (↑(x15.v.pos) : Int)) (x15.v.bv) (x15.v.bn) (x15.v.arr) (x15.v.prev)))) 0) : Int) (0 : Int) (Sl.mk none 0 0)] = x29.gl) ∧ 
 (True)))) ∧
 ((∀ x23 : (RV × Nat), ((ends1 (RS.mk x22 x15.rel x.rb x.sb x.bb x.vs (nats (ints x.bs)) x.big x21 (Int.toNat (↑(x15.v.off) : Int)) (Int.toNat (↑(x15.v.bits) : Int)) (Int.toNat (↑(x15.v.num) : Int)) (x15.v.pk) (x15.v.pkn) (x15.v.dis) (Int.toNat (↑(x15.v.fed) : Int)) (Int.toNat (↑(x15.v.pos) : Int)) (x15.v.bv) (x15.v.bn) (x15.v.arr) (x15.v.prev)) lens x23.1) → 
 (x22 = x22) ∧ 
 (x20 = x20) ∧ (x20 = x20) ∧ (x15.gx = x15.gx ∧ List.length x15.gl = List.length x15.gl) ∧ 
 ∃ x24 : (Y20 × RV), (ps53 lens (X53.mk x vl l vc vr extra) x24.1 x24.2) ∧ 
 (x15.gx = x24.1.gv ∧ x15.gl = x24.1.gl) ∧ 
 ((x15.i : Int) = wrong x24.1.st (List.length x24.1.gl)) ∧ 
 ((↑(Y53.P x15) : Int) = (↑((8 : Nat) * List.length x.bs - x24.1.left) : Int)) ∧ 
 (x.m = x.m) ∧ 
 (relLe x24.1.rel x15.rel) ∧ 
 (x.rb = x.rb) ∧ 
 ((x23.1.off : Int) = (x24.2.off : Int)) ∧ 
 (x.sb = x.sb ∧ Off.lit 0 = Off.lit 0) ∧ 
 (Value.nilIface = Value.nilIface) ∧ (x.bb = x.bb ∧ Off.lit 0 = Off.lit 0) ∧ 
 ((x23.1.bits : Int) = (x24.2.bits : Int)) ∧ 
 ((x23.1.num : Int) = (x24.2.num : Int)) ∧ 
 (x.big = x.big) ∧ 
 (x23.1.pk = x24.2.pk ∧ x23.1.pkn = x24.2.pkn) ∧ 
 (x23.1.dis = x24.2.dis) ∧ 
 ((x23.1.fed : Int) = (x24.2.fed : Int)) ∧ 
 (Value.pointer none = Value.pointer none) ∧ (x.bb = x.bb ∧ Off.lit 0 = Off.lit 0) ∧ 
 (Value.pointer none = Value.pointer none) ∧ (x.sb = x.sb) ∧ 
 (x.vs = x.vs ∧ ints (nats (ints x.bs)) = ints x.bs) ∧ 
 ((x23.1.off : Int) = (x24.2.off : Int)) ∧ 
 (x23.1.prev = x24.2.prev) ∧ 
 (x.bb = x.bb) ∧ 
 (x.sb = x.sb ∧ Off.lit 0 = Off.lit 0) ∧ 
 ((x23.1.pos : Int) = (x24.2.pos : Int)) ∧ 
 (x23.1.bv = x24.2.bv ∧ x23.1.bn = x24.2.bn) ∧ 
 ((512 : Nat) = (512 : Nat) ∧ x23.1.arr = x24.2.arr) ∧ 
 (True))) ∧
 (∀ x23 : (RV × Nat × Nat × Int × Int), ((ends2 (RS.mk x22 x15.rel x.rb x.sb x.bb x.vs (nats (ints x.bs)) x.big x21 (Int.toNat (↑(x15.v.off) : Int)) (Int.toNat (↑(x15.v.bits) : Int)) (Int.toNat (↑(x15.v.num) : Int)) (x15.v.pk) (x15.v.pkn) (x15.v.dis) (Int.toNat (↑(x15.v.fed) : Int)) (Int.toNat (↑(x15.v.pos) : Int)) (x15.v.bv) (x15.v.bn) (x15.v.arr) (x15.v.prev)) lens (extraOf (rgL 0 (extraOf (rgL 0 extra)))) x23.1) → 
 (x22 = x22) ∧ 
 (x20 = x20) ∧ (x20 = x20) ∧ (x15.gx = x15.gx ∧ List.length x15.gl = List.length x15.gl) ∧ 
 ∃ x24 : (Y20 × RV), (ps53 lens (X53.mk x vl l vc vr extra) x24.1 x24.2) ∧ 
 (x15.gx = x24.1.gv ∧ x15.gl = x24.1.gl) ∧ 
 ((x15.i : Int) = wrong x24.1.st (List.length x24.1.gl)) ∧ 
 ((↑(Y53.P x15) : Int) = (↑((8 : Nat) * List.length x.bs - x24.1.left) : Int)) ∧ 
 (x.m = x.m) ∧ 
 (relLe x24.1.rel x15.rel) ∧ 
 (x.rb = x.rb) ∧ 
 ((x23.1.off : Int) = (x24.2.off : Int)) ∧ 
 (x.sb = x.sb ∧ Off.lit 0 = Off.lit 0) ∧ 
 (Value.nilIface = Value.nilIface) ∧ (x.bb = x.bb ∧ Off.lit 0 = Off.lit 0) ∧ 
 ((x23.1.bits : Int) = (x24.2.bits : Int)) ∧ 
 ((x23.1.num : Int) = (x24.2.num : Int)) ∧ 
 (x.big = x.big) ∧ 
 (x23.1.pk = x24.2.pk ∧ x23.1.pkn = x24.2.pkn) ∧ 
 (x23.1.dis = x24.2.dis) ∧ 
 ((x23.1.fed : Int) = (x24.2.fed : Int)) ∧ 
 (Value.pointer none = Value.pointer none) ∧ (x.bb = x.bb ∧ Off.lit 0 = Off.lit 0) ∧ 
 (Value.pointer none = Value.pointer none) ∧ (x.sb = x.sb) ∧ 
 (x.vs = x.vs ∧ ints (nats (ints x.bs)) = ints x.bs) ∧ 
 ((x23.1.off : Int) = (x24.2.off : Int)) ∧ 
 (x23.1.prev = x24.2.prev) ∧ 
 (x.bb = x.bb) ∧ 
 (x.sb = x.sb ∧ Off.lit 0 = Off.lit 0) ∧ 
 ((x23.1.pos : Int) = (x24.2.pos : Int)) ∧ 
 (x23.1.bv = x24.2.bv ∧ x23.1.bn = x24.2.bn) ∧ 
 ((512 : Nat) = (512 : Nat) ∧ x23.1.arr = x24.2.arr) ∧ 
 (True)))))
 (Br (x16.kind == (3 : Int))
 ((x1 = x1) ∧ ∃ x21 : (Nat), ∀ x22 : (Nat → Option Obj), (rsOK (RS.mk x22 x15.rel x.rb x.sb x.bb x.vs (nats (ints x.bs)) x.big x21 (Int.toNat (↑(x15.v.off) : Int)) (Int.toNat (↑(x15.v.bits) : Int)) (Int.toNat (↑(x15.v.num) : Int)) (x15.v.pk) (x15.v.pkn) (x15.v.dis) (Int.toNat (↑(x15.v.fed) : Int)) (Int.toNat (↑(x15.v.pos) : Int)) (x15.v.bv) (x15.v.bn) (x15.v.arr) (x15.v.prev))) ∧ 
 (x.rb = x.rb ∧ Off.lit 0 = Off.lit 0) ∧ 
 (x22 = x22) ∧ 
 (relLe x15.rel x15.rel) ∧ 
 (x.rb = x.rb) ∧ 
 ((↑(x15.v.off) : Int) = (↑(Int.toNat (↑(x15.v.off) : Int)) : Int)) ∧ 
 (x.sb = x.sb ∧ Off.lit 0 = Off.lit 0) ∧ 
 (Value.nilIface = Value.nilIface) ∧ (x.bb = x.bb ∧ Off.lit 0 = Off.lit 0) ∧ 
 ((↑(x15.v.bits) : Int) = (↑(Int.toNat (↑(x15.v.bits) : Int)) : Int)) ∧ 
 ((↑(x15.v.num) : Int) = (↑(Int.toNat (↑(x15.v.num) : Int)) : Int)) ∧ 
 (x.big = x.big) ∧ 
 (x15.v.pk = x15.v.pk ∧ x15.v.pkn = x15.v.pkn) ∧ 
 (x15.v.dis = x15.v.dis) ∧ 
 ((↑(x15.v.fed) : Int) = (↑(Int.toNat (↑(x15.v.fed) : Int)) : Int)) ∧ 
 (Value.pointer none = Value.pointer none) ∧ (x.bb = x.bb ∧ Off.lit 0 = Off.lit 0) ∧ 
 (Value.pointer none = Value.pointer none) ∧ (x.sb = x.sb) ∧ 
 (x.vs = x.vs ∧ ints x.bs = ints (nats (ints x.bs))) ∧ 
 ((↑(x15.v.off) : Int) = (↑(Int.toNat (↑(x15.v.off) : Int)) : Int)) ∧ 
 (x15.v.prev = x15.v.prev) ∧ 
 (x.bb = x.bb) ∧ 
 (x.sb = x.sb ∧ Off.lit 0 = Off.lit 0) ∧ 
 ((↑(x15.v.pos) : Int) = (↑(Int.toNat (↑(x15.v.pos) : Int)) : Int)) ∧ 
 (x15.v.bv = x15.v.bv ∧ x15.v.bn = x15.v.bn) ∧ 
 ((512 : Nat) = (512 : Nat) ∧ x15.v.arr = x15.v.arr) ∧ 
 ∀ x23 : (RV), ((took (RS.mk x22 x15.rel x.rb x.sb x.bb x.vs (nats (ints x.bs)) x.big x21 (Int.toNat (↑(x15.v.off) : Int)) (Int.toNat (↑(x15.v.bits) : Int)) (Int.toNat (↑(x15.v.num) : Int)) (x15.v.pk) (x15.v.pkn) (x15.v.dis) (Int.toNat (↑(x15.v.fed) : Int)) (Int.toNat (↑(x15.v.pos) : Int)) (x15.v.bv) (x15.v.bn) (x15.v.arr) (x15.v.prev)) (((8 : Nat) * List.length (nats (ints x.bs)) - x21) % (8 : Nat)) x23) → 
 (x22 = x22) ∧ 
 (x18 = x18) ∧ (x20 = x20) ∧ (x20 = x20) ∧ (x20 = x20) ∧ (x19 = x19) ∧ (x18 = x18) ∧ ∀ x24 : (Nat), (x15.gx = x15.gx ∧ List.length x15.gl = List.length x15.gl) ∧ 
 (Value.slice (some (Addr.mk x24 0 none)) 1 1 = Value.slice (some (Addr.mk x24 0 none)) 1 1 ∧ (1 : Nat) = List.length [Pt.mk x16.kind (↑(RS.W (RS.mk x22 x15.rel x.rb x.sb x.bb x.vs (nats (ints x.bs)) x.big x21 (Int.toNat (↑(x15.v.off) : Int)) (Int.toNat (↑(x15.v.bits) : Int)) (Int.toNat (↑(x15.v.num) : Int)) (x15.v.pk) (x15.v.pkn) (x15.v.dis) (Int.toNat (↑(x15.v.fed) : Int)) (Int.toNat (↑(x15.v.pos) : Int)) (x15.v.bv) (x15.v.bn) (x15.v.arr) (x15.v.prev)) % (2 : Nat) ^ (((8 : Nat) * List.length (nats (ints x.bs)) - x21) % (8 : Nat))) : Int) (0 : Int) (Sl.mk none 0 0)]) ∧ 
 (room (List.length x15.gl + List.length [Pt.mk x16.kind (↑(RS.W (RS.mk x22 x15.rel x.rb x.sb x.bb x.vs (nats (ints x.bs)) x.big x21 (Int.toNat (↑(x15.v.off) : Int)) (Int.toNat (↑(x15.v.bits) : Int)) (Int.toNat (↑(x15.v.num) : Int)) (x15.v.pk) (x15.v.pkn) (x15.v.dis) (Int.toNat (↑(x15.v.fed) : Int)) (Int.toNat (↑(x15.v.pos) : Int)) (x15.v.bv) (x15.v.bn) (x15.v.arr) (x15.v.prev)) % (2 : Nat) ^ (((8 : Nat) * List.length (nats (ints x.bs)) - x21) % (8 : Nat))) : Int) (0 : Int) (Sl.mk none 0 0)]) 48) ∧ 
 ∀ x25 : (Value), (x1 = x1) ∧ ∃ x26 : (Nat), ∀ x27 : (Nat → Option Obj), (rsW (RS.mk x27 x15.rel x.rb x.sb x.bb x.vs (nats (ints (nats (ints x.bs)))) x.big x26 (Int.toNat (x23.off : Int)) (Int.toNat (x23.bits : Int)) (Int.toNat (x23.num : Int)) x23.pk x23.pkn x23.dis (Int.toNat (x23.fed : Int)) (Int.toNat (x23.pos : Int)) x23.bv x23.bn x23.arr x23.prev)) ∧ 
 (x.rb = x.rb ∧ Off.lit 0 = Off.lit 0) ∧ 
 (x27 = x27) ∧ 
 (relLe x15.rel x15.rel) ∧ 
 (x.rb = x.rb) ∧ 
 ((x23.off : Int) = (↑(Int.toNat (x23.off : Int)) : Int)) ∧ 
 (x.sb = x.sb ∧ Off.lit 0 = Off.lit 0) ∧ 
 (Value.nilIface = Value.nilIface) ∧ (x.bb = x.bb ∧ Off.lit 0 = Off.lit 0) ∧ 
 ((x23.bits : Int) = (↑(Int.toNat (x23.bits : Int)) : Int)) ∧ 
 ((x23.num : Int) = (↑(Int.toNat (x23.num : Int)) : Int)) ∧ 
 (x.big = x.big) ∧ 
 (x23.pk = x23.pk ∧ x23.pkn = x23.pkn) ∧ 
 (x23.dis = x23.dis) ∧ 
 ((x23.fed : Int) = (↑(Int.toNat (x23.fed : Int)) : Int)) ∧ 
 (Value.pointer none = Value.pointer none) ∧ (x.bb = x.bb ∧ Off.lit 0 = Off.lit 0) ∧ 
 (Value.pointer none = Value.pointer none) ∧ (x.sb = x.sb) ∧ 
 (x.vs = x.vs ∧ ints (nats (ints x.bs)) = ints (nats (ints (nats (ints x.bs))))) ∧ 
 ((x23.off : Int) = (↑(Int.toNat (x23.off : Int)) : Int)) ∧ 
 (x23.prev = x23.prev) ∧ 
 (x.bb = x.bb) ∧ 
 (x.sb = x.sb ∧ Off.lit 0 = Off.lit 0) ∧ 
 ((x23.pos : Int) = (↑(Int.toNat (x23.pos : Int)) : Int)) ∧ 
 (x23.bv = x23.bv ∧ x23.bn = x23.bn) ∧ 
 ((512 : Nat) = (512 : Nat) ∧ x23.arr = x23.arr) ∧ 
 ∀ x28 : (Unit), ((True) → 
 (x27 = x27) ∧ 
 (inI64 ((x15.i : Int) + (1 : Int))) ∧ 
 ∃ x29 : (Y53), (ph53 lens (X53.mk x vl l vc vr extra) (noteS (SV.segs (SV.ro 215 x13 (rgL 0 (extraOf (rgL 0 extra))))) x11.2) x29 ∧ List.length l - x29.i < List.length l - x15.i) ∧ 
 (x25 = x29.gx ∧ List.length x15.gl + List.length [Pt.mk x16.kind (↑(RS.W (RS.mk x22 x15.rel x.rb x.sb x.bb x.vs (nats (ints x.bs)) x.big x21 (Int.toNat (↑(x15.v.off) : Int)) (Int.toNat (↑(x15.v.bits) : Int)) (Int.toNat (↑(x15.v.num) : Int)) (x15.v.pk) (x15.v.pkn) (x15.v.dis) (Int.toNat (↑(x15.v.fed) : Int)) (Int.toNat (↑(x15.v.pos) : Int)) (x15.v.bv) (x15.v.bn) (x15.v.arr) (x15.v.prev)) % (2 : Nat) ^ (((8 : Nat) * List.length (nats (ints x.bs)) - x21) % (8 : Nat))) : Int) (0 : Int) (Sl.mk none 0 0)] = List.length x29.gl) ∧ 
 ((x15.i : Int) + (1 : Int) = (x29.i : Int)) ∧ 
 ((x26 : Int) = (↑(Y53.P x29) : Int)) ∧ 
 (x.m = x.m) ∧ (relLe x29.rel (relAdd x15.rel 36 (Value.slice (some (Addr.mk x24 0 none)) 1 1) [Pt.mk x16.kind (↑(RS.W (RS.mk x22 x15.rel x.rb x.sb x.bb x.vs (nats (ints x.bs)) x.big x21 (Int.toNat (↑(x15.v.off) : Int)) (Int.toNat (↑(x15.v.bits) : Int)) (Int.toNat (↑(x15.v.num) : Int)) (x15.v.pk) (x15.v.pkn) (x15.v.dis) (Int.toNat (↑(x15.v.fed) : Int)) (Int.toNat (↑(x15.v.pos) : Int)) (x15.v.bv) (x15.v.bn) (x15.v.arr) (x15.v.prev)) % (2 : Nat) ^ (((8 : Nat) * List.length (nats (ints x.bs)) - x21) % (8 : Nat))) : Int) (0 : Int) (Sl.mk none 0 0)])) ∧ 
 (x.rb = x.rb) ∧ 
 ((↑(Int.toNat (x23.off : Int)) : Int) = (↑(x29.v.off) : Int)) ∧ 
 (x.sb = x.sb ∧ Off.lit 0 = Off.lit 0) ∧ 
 (Value.nilIface = Value.nilIface) ∧ (x.bb = x.bb ∧ Off.lit 0 = Off.lit 0) ∧ 
 ((↑(Int.toNat (x23.bits : Int)) : Int) = (↑(x29.v.bits) : Int)) ∧ 
 ((↑(Int.toNat (x23.num : Int)) : Int) = (↑(x29.v.num) : Int)) ∧ 
 (x.big = x.big) ∧ 
 (x23.pk = x29.v.pk ∧ x23.pkn = x29.v.pkn) ∧ 
 (x23.dis = x29.v.dis) ∧ 
 ((↑(Int.toNat (x23.fed : Int)) : Int) = (↑(x29.v.fed) : Int)) ∧ 
 (Value.pointer none = Value.pointer none) ∧ (x.bb = x.bb ∧ Off.lit 0 = Off.lit 0) ∧ 
 (Value.pointer none = Value.pointer none) ∧ (x.sb = x.sb) ∧ 
 (x.vs = x.vs ∧ ints (nats (ints (nats (ints x.bs)))) = ints x.bs) ∧ 
 ((↑(Int.toNat (x23.off : Int)) : Int) = (↑(x29.v.off) : Int)) ∧ 
 (x23.prev = x29.v.prev) ∧ 
 (x.bb = x.bb) ∧ 
 (x.sb = x.sb ∧ Off.lit 0 = Off.lit 0) ∧ 
 ((↑(Int.toNat (x23.pos : Int)) : Int) = (↑(x29.v.pos) : Int)) ∧ 
 (x23.bv = x29.v.bv ∧ x23.bn = x29.v.bn) ∧ 
 ((512 : Nat) = (512 : Nat) ∧ x23.arr = x29.v.arr) ∧ 
 (x1 = x1) ∧ (x.rb = x.rb ∧ Off.lit 0 = Off.lit 0) ∧ 
 (x2 = x2) ∧ (vc = vc ∧ canonL lens = canonL lens) ∧ 
 (x3 = x3) ∧ (vr = vr ∧ rgL 0 extra = rgL 0 extra) ∧ 
 (x4 = x4) ∧ (true = true) ∧ (x5 = x5) ∧ (x11.1.cv = x11.1.cv ∧ ints x11.1.ch = ints x11.1.ch) ∧ 
 (x11.1.lv = x11.1.lv ∧ x11.1.lk = x11.1.lk) ∧ 
 ((x11.1.cm : Int) = (x11.1.cm : Int)) ∧ ((x11.1.lm : Int) = (x11.1.lm : Int)) ∧ ((x11.1.cb : Int) = (x11.1.cb : Int)) ∧ ((x11.1.mb : Int) = (x11.1.mb : Int)) ∧ ((x11.1.ns : Int) = (x11.1.ns : Int)) ∧ (x6 = x6) ∧ (x13 = x13 ∧ rgL 0 (extraOf (rgL 0 extra)) = rgL 0 (extraOf (rgL 0 extra))) ∧ 
 (x7 = x7) ∧ (true = true) ∧ (x25 = x29.gx ∧ x15.gl ++ [Pt.mk x16.kind (↑(RS.W (RS.mk x22 x15.rel x.rb x.sb x.bb x.vs (nats (ints x.bs)) x.big x21 (Int.toNat (↑(x15.v.off) : Int)) (Int.toNat (↑(x15.v.bits) : Int)) (Int.toNat (↑(x15.v.num) : Int)) (x15.v.pk) (x15.v.pkn) (x15.v.dis) (Int.toNat (↑(x15.v.fed) : Int)) (Int.toNat (↑(x15.v.pos) : Int)) (x15.v.bv) (x15.v.bn) (x15.v.arr) (x15.v.prev)) % (2 : Nat) ^ (((8 : Nat) * List.length (nats (ints x.bs)) - x21) % (8 : Nat))) : Int) (0 : Int) (Sl.mk none 0 0)] = x29.gl) ∧ 
 (True))))
 (Br (x16.kind == (4 : Int))
 ((x17 = x17) ∧ ((0 : Int) ≤ mnI x16.n (100000 : Int) ∧ mnI x16.n (100000 : Int) ≤ mnI x16.n (100000 : Int) ∧ room (Int.toNat (mnI x16.n (100000 : Int))) 1) ∧ 
 ∀ x21 : (Value), (x18 = x18) ∧ (x1 = x1) ∧ (x18 = x18) ∧ ∃ x22 : (Nat), ∀ x23 : (Nat → Option Obj), (c145OK (RS.mk x23 x15.rel x.rb x.sb x.bb x.vs (nats (ints x.bs)) x.big x22 (Int.toNat (↑(x15.v.off) : Int)) (Int.toNat (↑(x15.v.bits) : Int)) (Int.toNat (↑(x15.v.num) : Int)) (x15.v.pk) (x15.v.pkn) (x15.v.dis) (Int.toNat (↑(x15.v.fed) : Int)) (Int.toNat (↑(x15.v.pos) : Int)) (x15.v.bv) (x15.v.bn) (x15.v.arr) (x15.v.prev)) (List.replicate (Int.toNat (mnI x16.n (100000 : Int))) (0 : Int))) ∧ 
 (x.rb = x.rb ∧ Off.lit 0 = Off.lit 0) ∧ 
 (x21 = x21 ∧ Int.toNat (mnI x16.n (100000 : Int)) = List.length (List.replicate (Int.toNat (mnI x16.n (100000 : Int))) (0 : Int))) ∧ 
 ((↑(Int.toNat (mnI x16.n (100000 : Int))) : Int) = (↑(List.length (List.replicate (Int.toNat (mnI x16.n (100000 : Int))) (0 : Int))) : Int)) ∧ 
 (x23 = x23) ∧ 
 (relLe x15.rel x15.rel) ∧ 
 (x.rb = x.rb) ∧ 
 ((↑(x15.v.off) : Int) = (↑(Int.toNat (↑(x15.v.off) : Int)) : Int)) ∧ 
 (x.sb = x.sb ∧ Off.lit 0 = Off.lit 0) ∧ 
 (Value.nilIface = Value.nilIface) ∧ (x.bb = x.bb ∧ Off.lit 0 = Off.lit 0) ∧ 
 ((↑(x15.v.bits) : Int) = (↑(Int.toNat (↑(x15.v.bits) : Int)) : Int)) ∧ 
 ((↑(x15.v.num) : Int) = (↑(Int.toNat (↑(x15.v.num) : Int)) : Int)) ∧ 
 (x.big = x.big) ∧ 
 (x15.v.pk = x15.v.pk ∧ x15.v.pkn = x15.v.pkn) ∧ 
 (x15.v.dis = x15.v.dis) ∧ 
 ((↑(x15.v.fed) : Int) = (↑(Int.toNat (↑(x15.v.fed) : Int)) : Int)) ∧ 
 (Value.pointer none = Value.pointer none) ∧ (x.bb = x.bb ∧ Off.lit 0 = Off.lit 0) ∧ 
 (Value.pointer none = Value.pointer none) ∧ (x.sb = x.sb) ∧ 
 (x.vs = x.vs ∧ ints x.bs = ints (nats (ints x.bs))) ∧ 
 ((↑(x15.v.off) : Int) = (↑(Int.toNat (↑(x15.v.off) : Int)) : Int)) ∧ 
 (x15.v.prev = x15.v.prev) ∧ 
 (x.bb = x.bb) ∧ 
 (x.sb = x.sb ∧ Off.lit 0 = Off.lit 0) ∧ 
 ((↑(x15.v.pos) : Int) = (↑(Int.toNat (↑(x15.v.pos) : Int)) : Int)) ∧ 
 (x15.v.bv = x15.v.bv ∧ x15.v.bn = x15.v.bn) ∧ 
 ((512 : Nat) = (512 : Nat) ∧ x15.v.arr = x15.v.arr) ∧ 
 (x21 = x21 ∧ List.replicate (Int.toNat (mnI x16.n (100000 : Int))) (0 : Int) = List.replicate (Int.toNat (mnI x16.n (100000 : Int))) (0 : Int)) ∧ 
 (∀ x24 : (RV), ((full145 (RS.mk x23 x15.rel x.rb x.sb x.bb x.vs (nats (ints x.bs)) x.big x22 (Int.toNat (↑(x15.v.off) : Int)) (Int.toNat (↑(x15.v.bits) : Int)) (Int.toNat (↑(x15.v.num) : Int)) (x15.v.pk) (x15.v.pkn) (x15.v.dis) (Int.toNat (↑(x15.v.fed) : Int)) (Int.toNat (↑(x15.v.pos) : Int)) (x15.v.bv) (x15.v.bn) (x15.v.arr) (x15.v.prev)) (List.length (List.replicate (Int.toNat (mnI x16.n (100000 : Int))) (0 : Int))) x24) → 
 (x23 = x23) ∧ 
 (x19 = x19) ∧ (x20 = x20) ∧ (x20 = x20) ∧ (x20 = x20) ∧ (x19 = x19) ∧ (x18 = x18) ∧ ∀ x25 : (Option Addr), ∀ x26 : (Nat), ((x21 = Value.slice x25 (Int.toNat (mnI x16.n (100000 : Int))) x26) → 
 ∀ x27 : (Nat), (x15.gx = x15.gx ∧ List.length x15.gl = List.length x15.gl) ∧ 
 (Value.slice (some (Addr.mk x27 0 none)) 1 1 = Value.slice (some (Addr.mk x27 0 none)) 1 1 ∧ (1 : Nat) = List.length [Pt.mk x16.kind (0 : Int) (0 : Int) (Sl.mk x25 (Int.toNat (mnI x16.n (100000 : Int))) x26)]) ∧ 
 (room (List.length x15.gl + List.length [Pt.mk x16.kind (0 : Int) (0 : Int) (Sl.mk x25 (Int.toNat (mnI x16.n (100000 : Int))) x26)]) 48) ∧ 
 ∀ x28 : (Value), (x1 = x1) ∧ ∃ x29 : (Nat), ∀ x30 : (Nat → Option Obj), (rsW (RS.mk x30 x15.rel x.rb x.sb x.bb x.vs (nats (ints (nats (ints x.bs)))) x.big x29 (Int.toNat (x24.off : Int)) (Int.toNat (x24.bits : Int)) (Int.toNat (x24.num : Int)) x24.pk x24.pkn x24.dis (Int.toNat (x24.fed : Int)) (Int.toNat (x24.pos : Int)) x24.bv x24.bn x24.arr x24.prev)) ∧ 
 (x.rb = x.rb ∧ Off.lit 0 = Off.lit 0) ∧ 
 (x30 = x30) ∧ 
 (relLe x15.rel x15.rel) ∧ 
 (x.rb = x.rb) ∧ 
 ((x24.off : Int) = (↑(Int.toNat (x24.off : Int)) : Int)) ∧ 
 (x.sb = x.sb ∧ Off.lit 0 = Off.lit 0) ∧ 
 (Value.nilIface = Value.nilIface) ∧ (x.bb = x.bb ∧ Off.lit 0 = Off.lit 0) ∧ 
 ((x24.bits : Int) = (↑(Int.toNat (x24.bits : Int)) : Int)) ∧ 
 ((x24.num : Int) = (↑(Int.toNat (x24.num : Int)) : Int)) ∧ 
 (x.big = x.big) ∧ 
 (x24.pk = x24.pk ∧ x24.pkn = x24.pkn) ∧ 
 (x24.dis = x24.dis) ∧ 
 ((x24.fed : Int) = (↑(Int.toNat (x24.fed : Int)) : Int)) ∧ 
 (Value.pointer none = Value.pointer none) ∧ (x.bb = x.bb ∧ Off.lit 0 = Off.lit 0) ∧ 
 (Value.pointer none = Value.pointer none) ∧ (x.sb = x.sb) ∧ 
 (x.vs = x.vs ∧ ints (nats (ints x.bs)) = ints (nats (ints (nats (ints x.bs))))) ∧ 
 ((x24.off : Int) = (↑(Int.toNat (x24.off : Int)) : Int)) ∧ 
 (x24.prev = x24.prev) ∧ 
 (x.bb = x.bb) ∧ 
 (x.sb = x.sb ∧ Off.lit 0 = Off.lit 0) ∧ 
 ((x24.pos : Int) = (↑(Int.toNat (x24.pos : Int)) : Int)) ∧ 
 (x24.bv = x24.bv ∧ x24.bn = x24.bn) ∧ 
 ((512 : Nat) = (512 : Nat) ∧ x24.arr = x24.arr) ∧ 
 ∀ x31 : (Unit), ((True) → 
 (x30 = x30) ∧ 
 (inI64 ((x15.i : Int) + (1 : Int))) ∧ 
 ∃ x32 : (Y53), (ph53 lens (X53.mk x vl l vc vr extra) (noteS (SV.segs (SV.ro 215 x13 (rgL 0 (extraOf (rgL 0 extra))))) x11.2) x32 ∧ List.length l - x32.i < List.length l - x15.i) ∧ 
 (x28 = x32.gx ∧ List.length x15.gl + List.length [Pt.mk x16.kind (0 : Int) (0 : Int) (Sl.mk x25 (Int.toNat (mnI x16.n (100000 : Int))) x26)] = List.length x32.gl) ∧ 
 ((x15.i : Int) + (1 : Int) = (x32.i : Int)) ∧ 
 ((x29 : Int) = (↑(Y53.P x32) : Int)) ∧ 
 (x.m = x.m) ∧ (relLe x32.rel (relAdd (relAdd x15.rel 5 x21 (ints (List.take (List.length (List.replicate (Int.toNat (mnI x16.n (100000 : Int))) (0 : Int))) (List.drop (x22 / (8 : Nat)) (nats (ints x.bs)))))) 36 (Value.slice (some (Addr.mk x27 0 none)) 1 1) [Pt.mk x16.kind (0 : Int) (0 : Int) (Sl.mk x25 (Int.toNat (mnI x16.n (100000 : Int))) x26)])) ∧ 
 (x.rb = x.rb) ∧ 
 ((↑(Int.toNat (x24.off : Int)) : Int) = (↑(x32.v.off) : Int)) ∧ 
 (x.sb = x.sb ∧ Off.lit 0 = Off.lit 0) ∧ 
 (Value.nilIface = Value.nilIface) ∧ (x.bb = x.bb ∧ Off.lit 0 = Off.lit 0) ∧ 
 ((↑(Int.toNat (x24.bits : Int)) : Int) = (↑(x32.v.bits) : Int)) ∧ 
 ((↑(Int.toNat (x24.num : Int)) : Int) = (↑(x32.v.num) : Int)) ∧ 
 (x.big = x.big) ∧ 
 (x24.pk = x32.v.pk ∧ x24.pkn = x32.v.pkn) ∧ 
 (x24.dis = x32.v.dis) ∧ 
 ((↑(Int.toNat (x24.fed : Int)) : Int) = (↑(x32.v.fed) : Int)) ∧ 
 (Value.pointer none = Value.pointer none) ∧ (x.bb = x.bb ∧ Off.lit 0 = Off.lit 0) ∧ 
 (Value.pointer none = Value.pointer none) ∧ (x.sb = x.sb) ∧ 
 (x.vs = x.vs ∧ ints (nats (ints (nats (ints x.bs)))) = ints x.bs) ∧ 
 ((↑(Int.toNat (x24.off : Int)) : Int) = (↑(x32.v.off) : Int)) ∧ 
 (x24.prev = x32.v.prev) ∧ 
 (x.bb = x.bb) ∧ 
 (x.sb = x.sb ∧ Off.lit 0 = Off.lit 0) ∧ 
 ((↑(Int.toNat (x24.pos : Int)) : Int) = (↑(x32.v.pos) : Int)) ∧ 
 (x24.bv = x32.v.bv ∧ x24.bn = x32.v.bn) ∧ 
 ((512 : Nat) = (512 : Nat) ∧ x24.arr = x32.v.arr) ∧ 
 (x1 = x1) ∧ (x.rb = x.rb ∧ Off.lit 0 = Off.lit 0) ∧ 
 (x2 = x2) ∧ (vc = vc ∧ canonL lens = canonL lens) ∧ 
 (x3 = x3) ∧ (vr = vr ∧ rgL 0 extra = rgL 0 extra) ∧ 
 (x4 = x4) ∧ (true = true) ∧ (x5 = x5) ∧ (x11.1.cv = x11.1.cv ∧ ints x11.1.ch = ints x11.1.ch) ∧ 
 (x11.1.lv = x11.1.lv ∧ x11.1.lk = x11.1.lk) ∧ 
 ((x11.1.cm : Int) = (x11.1.cm : Int)) ∧ ((x11.1.lm : Int) = (x11.1.lm : Int)) ∧ ((x11.1.cb : Int) = (x11.1.cb : Int)) ∧ ((x11.1.mb : Int) = (x11.1.mb : Int)) ∧ ((x11.1.ns : Int) = (x11.1.ns : Int)) ∧ (x6 = x6) ∧ (x13 = x13 ∧ rgL 0 (extraOf (rgL 0 extra)) = rgL 0 (extraOf (rgL 0 extra))) ∧ 
 (x7 = x7) ∧ (true = true) ∧ (x28 = x32.gx ∧ x15.gl ++ [Pt.mk x16.kind (0 : Int) (0 : Int) (Sl.mk x25 (Int.toNat (mnI x16.n (100000 : Int))) x26)] = x32.gl) ∧ 
 (True))))) ∧
 (∀ x24 : (RV × Nat × Addr × List Int), ((ends145 (RS.mk x23 x15.rel x.rb x.sb x.bb x.vs (nats (ints x.bs)) x.big x22 (Int.toNat (↑(x15.v.off) : Int)) (Int.toNat (↑(x15.v.bits) : Int)) (Int.toNat (↑(x15.v.num) : Int)) (x15.v.pk) (x15.v.pkn) (x15.v.dis) (Int.toNat (↑(x15.v.fed) : Int)) (Int.toNat (↑(x15.v.pos) : Int)) (x15.v.bv) (x15.v.bn) (x15.v.arr) (x15.v.prev)) (List.replicate (Int.toNat (mnI x16.n (100000 : Int))) (0 : Int)) x24.1 (x24.2.1) (Prod.snd (x24.2.2))) → 
 (x23 = x23) ∧ 
 (x19 = x19) ∧ (x20 = x20) ∧ (x20 = x20) ∧ (x20 = x20) ∧ (x19 = x19) ∧ (x15.gx = x15.gx ∧ List.length x15.gl = List.length x15.gl) ∧ 
 ∃ x25 : (Y20 × RV), (ps53 lens (X53.mk x vl l vc vr extra) x25.1 x25.2) ∧ 
 (x15.gx = x25.1.gv ∧ x15.gl = x25.1.gl) ∧ 
 ((x15.i : Int) = wrong x25.1.st (List.length x25.1.gl)) ∧ 
 ((↑(Y53.P x15) : Int) = (↑((8 : Nat) * List.length x.bs - x25.1.left) : Int)) ∧ 
 (x.m = x.m) ∧ 
 (relLe x25.1.rel (relAdd x15.rel 5 x21 (Prod.snd (x24.2.2)))) ∧ 
 (x.rb = x.rb) ∧ 
 ((x24.1.off : Int) = (x25.2.off : Int)) ∧ 
 (x.sb = x.sb ∧ Off.lit 0 = Off.lit 0) ∧ 
 (Value.nilIface = Value.nilIface) ∧ (x.bb = x.bb ∧ Off.lit 0 = Off.lit 0) ∧ 
 ((x24.1.bits : Int) = (x25.2.bits : Int)) ∧ 
 ((x24.1.num : Int) = (x25.2.num : Int)) ∧ 
 (x.big = x.big) ∧ 
 (x24.1.pk = x25.2.pk ∧ x24.1.pkn = x25.2.pkn) ∧ 
 (x24.1.dis = x25.2.dis) ∧ 
 ((x24.1.fed : Int) = (x25.2.fed : Int)) ∧ 
 (Value.pointer none = Value.pointer none) ∧ (x.bb = x.bb ∧ Off.lit 0 = Off.lit 0) ∧ 
 (Value.pointer none = Value.pointer none) ∧ (x.sb = x.sb) ∧ 
 (x.vs = x.vs ∧ ints (nats (ints x.bs)) = ints x.bs) ∧ 
 ((x24.1.off : Int) = (x25.2.off : Int)) ∧ 
 (x24.1.prev = x25.2.prev) ∧ 
 (x.bb = x.bb) ∧ 
 (x.sb = x.sb ∧ Off.lit 0 = Off.lit 0) ∧ 
 ((x24.1.pos : Int) = (x25.2.pos : Int)) ∧ 
 (x24.1.bv = x25.2.bv ∧ x24.1.bn = x25.2.bn) ∧ 
 ((512 : Nat) = (512 : Nat) ∧ x24.1.arr = x25.2.arr) ∧ 
 (True))))
 ((x20 = x20) ∧ (x20 = x20) ∧ (x20 = x20) ∧ (x19 = x19) ∧ (x18 = x18) ∧ ∀ x21 : (Nat), (x15.gx = x15.gx ∧ List.length x15.gl = List.length x15.gl) ∧ 
 (Value.slice (some (Addr.mk x21 0 none)) 1 1 = Value.slice (some (Addr.mk x21 0 none)) 1 1 ∧ (1 : Nat) = List.length [Pt.mk x16.kind (0 : Int) (0 : Int) (Sl.mk none 0 0)]) ∧ 
 (room (List.length x15.gl + List.length [Pt.mk x16.kind (0 : Int) (0 : Int) (Sl.mk none 0 0)]) 48) ∧ 
 ∀ x22 : (Value), (x1 = x1) ∧ ∃ x23 : (Nat), ∀ x24 : (Nat → Option Obj), (rsW (RS.mk x24 x15.rel x.rb x.sb x.bb x.vs (nats (ints x.bs)) x.big x23 (Int.toNat (↑(x15.v.off) : Int)) (Int.toNat (↑(x15.v.bits) : Int)) (Int.toNat (↑(x15.v.num) : Int)) (x15.v.pk) (x15.v.pkn) (x15.v.dis) (Int.toNat (↑(x15.v.fed) : Int)) (Int.toNat (↑(x15.v.pos) : Int)) (x15.v.bv) (x15.v.bn) (x15.v.arr) (x15.v.prev))) ∧ 
 (x.rb = x.rb ∧ Off.lit 0 = Off.lit 0) ∧ 
 (x24 = x24) ∧ 
 (relLe x15.rel x15.rel) ∧ 
 (x.rb = x.rb) ∧ 
 ((↑(x15.v.off) : Int) = (↑(Int.toNat (↑(x15.v.off) : Int)) : Int)) ∧ 
 (x.sb = x.sb ∧ Off.lit 0 = Off.lit 0) ∧ 
 (Value.nilIface = Value.nilIface) ∧ (x.bb = x.bb ∧ Off.lit 0 = Off.lit 0) ∧ 
 ((↑(x15.v.bits) : Int) = (↑(Int.toNat (↑(x15.v.bits) : Int)) : Int)) ∧ 
 ((↑(x15.v.num) : Int) = (↑(Int.toNat (↑(x15.v.num) : Int)) : Int)) ∧ 
 (x.big = x.big) ∧ 
 (x15.v.pk = x15.v.pk ∧ x15.v.pkn = x15.v.pkn) ∧ 
 (x15.v.dis = x15.v.dis) ∧ 
 ((↑(x15.v.fed) : Int) = (↑(Int.toNat (↑(x15.v.fed) : Int)) : Int)) ∧ 
 (Value.pointer none = Value.pointer none) ∧ (x.bb = x.bb ∧ Off.lit 0 = Off.lit 0) ∧ 
 (Value.pointer none = Value.pointer none) ∧ (x.sb = x.sb) ∧ 
 (x.vs = x.vs ∧ ints x.bs = ints (nats (ints x.bs))) ∧ 
 ((↑(x15.v.off) : Int) = (↑(Int.toNat (↑(x15.v.off) : Int)) : Int)) ∧ 
 (x15.v.prev = x15.v.prev) ∧ 
 (x.bb = x.bb) ∧ 
 (x.sb = x.sb ∧ Off.lit 0 = Off.lit 0) ∧ 
 ((↑(x15.v.pos) : Int) = (↑(Int.toNat (↑(x15.v.pos) : Int)) : Int)) ∧ 
 (x15.v.bv = x15.v.bv ∧ x15.v.bn = x15.v.bn) ∧ 
 ((512 : Nat) = (512 : Nat) ∧ x15.v.arr = x15.v.arr) ∧ 
 ∀ x25 : (Unit), ((True) → 
 (x24 = x24) ∧ 
 (inI64 ((x15.i : Int) + (1 : Int))) ∧ 
 ∃ x26 : (Y53), (ph53 lens (X53.mk x vl l vc vr extra) (noteS (SV.segs (SV.ro 215 x13 (rgL 0 (extraOf (rgL 0 extra))))) x11.2) x26 ∧ List.length l - x26.i < List.length l - x15.i) ∧ 
 (x22 = x26.gx ∧ List.length x15.gl + List.length [Pt.mk x16.kind (0 : Int) (0 : Int) (Sl.mk none 0 0)] = List.length x26.gl) ∧ 
 ((x15.i : Int) + (1 : Int) = (x26.i : Int)) ∧ 
 ((x23 : Int) = (↑(Y53.P x26) : Int)) ∧ 
 (x.m = x.m) ∧ (relLe x26.rel (relAdd x15.rel 36 (Value.slice (some (Addr.mk x21 0 none)) 1 1) [Pt.mk x16.kind (0 : Int) (0 : Int) (Sl.mk none 0 0)])) ∧ 
 (x.rb = x.rb) ∧ 
 ((↑(Int.toNat (↑(x15.v.off) : Int)) : Int) = (↑(x26.v.off) : Int)) ∧ 
 (x.sb = x.sb ∧ Off.lit 0 = Off.lit 0) ∧ 
 (Value.nilIface = Value.nilIface) ∧ (x.bb = x.bb ∧ Off.lit 0 = Off.lit 0) ∧ 
 ((↑(Int.toNat (↑(x15.v.bits) : Int)) : Int) = (↑(x26.v.bits) : Int)) ∧ 
 ((↑(Int.toNat (↑(x15.v.num) : Int)) : Int) = (↑(x26.v.num) : Int)) ∧ 
 (x.big = x.big) ∧ 
 (x15.v.pk = x26.v.pk ∧ x15.v.pkn = x26.v.pkn) ∧ 
 (x15.v.dis = x26.v.dis) ∧ 
 ((↑(Int.toNat (↑(x15.v.fed) : Int)) : Int) = (↑(x26.v.fed) : Int)) ∧ 
 (Value.pointer none = Value.pointer none) ∧ (x.bb = x.bb ∧ Off.lit 0 = Off.lit 0) ∧ 
 (Value.pointer none = Value.pointer none) ∧ (x.sb = x.sb) ∧ 
 (x.vs = x.vs ∧ ints (nats (ints x.bs)) = ints x.bs) ∧ 
 ((↑(Int.toNat (↑(x15.v.off) : Int)) : Int) = (↑(x26.v.off) : Int)) ∧ 
 (x15.v.prev = x26.v.prev) ∧ 
 (x.bb = x.bb) ∧ 
 (x.sb = x.sb ∧ Off.lit 0 = Off.lit 0) ∧ 
 ((↑(Int.toNat (↑(x15.v.pos) : Int)) : Int) = (↑(x26.v.pos) : Int)) ∧ 
 (x15.v.bv = x26.v.bv ∧ x15.v.bn = x26.v.bn) ∧ 
 ((512 : Nat) = (512 : Nat) ∧ x15.v.arr = x26.v.arr) ∧ 
 (x1 = x1) ∧ (x.rb = x.rb ∧ Off.lit 0 = Off.lit 0) ∧ 
 (x2 = x2) ∧ (vc = vc ∧ canonL lens = canonL lens) ∧ 
 (x3 = x3) ∧ (vr = vr ∧ rgL 0 extra = rgL 0 extra) ∧ 
 (x4 = x4) ∧ (true = true) ∧ (x5 = x5) ∧ (x11.1.cv = x11.1.cv ∧ ints x11.1.ch = ints x11.1.ch) ∧ 
 (x11.1.lv = x11.1.lv ∧ x11.1.lk = x11.1.lk) ∧ 
 ((x11.1.cm : Int) = (x11.1.cm : Int)) ∧ ((x11.1.lm : Int) = (x11.1.lm : Int)) ∧ ((x11.1.cb : Int) = (x11.1.cb : Int)) ∧ ((x11.1.mb : Int) = (x11.1.mb : Int)) ∧ ((x11.1.ns : Int) = (x11.1.ns : Int)) ∧ (x6 = x6) ∧ (x13 = x13 ∧ rgL 0 (extraOf (rgL 0 extra)) = rgL 0 (extraOf (rgL 0 extra))) ∧ 
 (x7 = x7) ∧ (true = true) ∧ (x22 = x26.gx ∧ x15.gl ++ [Pt.mk x16.kind (0 : Int) (0 : Int) (Sl.mk none 0 0)] = x26.gl) ∧ 
 (True)))))))))
 ((x15.gx = x15.gx ∧ List.length x15.gl = List.length x15.gl) ∧ 
 ∃ x16 : (Y20 × RV), (ps53 lens (X53.mk x vl l vc vr extra) x16.1 x16.2) ∧ 
 (x15.gx = x16.1.gv ∧ x15.gl = x16.1.gl) ∧ 
 ((-1 : Int) = wrong x16.1.st (List.length x16.1.gl)) ∧ 
 ((↑(Y53.P x15) : Int) = (↑((8 : Nat) * List.length x.bs - x16.1.left) : Int)) ∧ 
 (x.m = x.m) ∧ 
 (relLe x16.1.rel x15.rel) ∧ 
 (x.rb = x.rb) ∧ 
 ((↑(x15.v.off) : Int) = (x16.2.off : Int)) ∧ 
 (x.sb = x.sb ∧ Off.lit 0 = Off.lit 0) ∧ 
 (Value.nilIface = Value.nilIface) ∧ (x.bb = x.bb ∧ Off.lit 0 = Off.lit 0) ∧ 
 ((↑(x15.v.bits) : Int) = (x16.2.bits : Int)) ∧ 
 ((↑(x15.v.num) : Int) = (x16.2.num : Int)) ∧ 
 (x.big = x.big) ∧ 
 (x15.v.pk = x16.2.pk ∧ x15.v.pkn = x16.2.pkn) ∧ 
 (x15.v.dis = x16.2.dis) ∧ 
 ((↑(x15.v.fed) : Int) = (x16.2.fed : Int)) ∧ 
 (Value.pointer none = Value.pointer none) ∧ (x.bb = x.bb ∧ Off.lit 0 = Off.lit 0) ∧ 
 (Value.pointer none = Value.pointer none) ∧ (x.sb = x.sb) ∧ 
 (x.vs = x.vs ∧ ints x.bs = ints x.bs) ∧ 
 ((↑(x15.v.off) : Int) = (x16.2.off : Int)) ∧ 
 (x15.v.prev = x16.2.prev) ∧ 
 (x.bb = x.bb) ∧ 
 (x.sb = x.sb ∧ Off.lit 0 = Off.lit 0) ∧ 
 ((↑(x15.v.pos) : Int) = (x16.2.pos : Int)) ∧ 
 (x15.v.bv = x16.2.bv ∧ x15.v.bn = x16.2.bn) ∧ 
 ((512 : Nat) = (512 : Nat) ∧ x15.v.arr = x16.2.arr) ∧ 
 (True)))))))
 ((x3 = x3) ∧ ∀ x8 : (Nat → Option Obj), (List.length (extraOf (rgL 0 extra)) ≤ (30 : Nat)) ∧ 
 (vr = vr ∧ rgL 0 extra = rgL 0 (extraOf (rgL 0 extra))) ∧ 
 (x8 = x8) ∧ 
 (relLe x.rel x.rel) ∧ 
 ∀ x9 : (Value), ((True) → 
 (x8 = x8) ∧ 
 (x6 = x6) ∧ (x7 = x7) ∧ (x7 = x7) ∧ (x7 = x7) ∧ ∃ x10 : (Unit), (False) ∧ 
 False /- "match: a slot of which nothing is known" -/))
noncomputable def law_c53t (G : Gl) (lens : List Nat) (x : RS) (vl : Value) (l : List Pt) (vc : Value) (vr : Value) (extra : List Nat) : VCT := fnx (CH G 4) (INH G 4 (b53t G lens) NA) (a53 lens ⟨x, vl, l, vc, vr, extra⟩) Tryz.f53 ((c53t G lens).args ⟨x, vl, l, vc, vr, extra⟩) ((c53t G lens).H ⟨x, vl, l, vc, vr, extra⟩) (outK true 5 ((c53t G lens).ret ⟨x, vl, l, vc, vr, extra⟩)) ((c53t G lens).pan ⟨x, vl, l, vc, vr, extra⟩)
theorem eq_c53t (G : Gl) (lens : List Nat) (x : RS) (vl : Value) (l : List Pt) (vc : Value) (vr : Value) (extra : List Nat) : cond_c53t G lens x vl l vc vr extra = (law_c53t G lens x vl l vc vr extra).den := by kernel_rfl
theorem ok_c53t (G : Gl) (lens : List Nat) (x : RS) (vl : Value) (l : List Pt) (vc : Value) (vr : Value) (extra : List Nat) (h : c53OK lens ⟨x, vl, l, vc, vr, extra⟩) : cond_c53t G lens x vl l vc vr extra := by
  unfold cond_c53t
  have e3 : ∀ l : List Nat, nats (ints l) = l := nats_ints
  have hok := h.ok
  have hP0 : x.P = 0 := h.P0
  have hg : Good lens := h.xr.1
  have hex30 : extra.length ≤ 30 := h.xr.2.1
  have hex20 : ∀ n ∈ extra, n ≤ 20 := h.xr.2.2.1
  have hbl : x.bs.length ≤ 300 := h.xr.2.2.2.2.1
  have hlight : lightB l := h.xr.2.2.2.2.2.1
  have hnn : ∀ p ∈ l, 0 ≤ p.n := h.xr.2.2.2.2.2.2
  have hxx := h.run
  have hl2 := hg.two
  have h60 := hg.sixty
  simp only [e3, lensOf_canon, extraOf_rgL, br_d, br_i, rel_self, true_and, and_true, and_self, inRange, inI64, Int.toNat_natCast, canonL_len]
  intro _ _ _ _ _ _ _
  refine ⟨fun _ m8 => ⟨h60, fun cvv _ m10 => ⟨hg, fun d hd m12 => ⟨hex30, fun rv _ => ?_⟩⟩⟩, fun h1 => absurd h1 (by omega)⟩
  have hr1' := noteS_le (SV.segs (SV.ro 215 rv (rgL 0 extra))) d.2
  generalize noteS (SV.segs (SV.ro 215 rv (rgL 0 extra))) d.2 = r1 at *
  have hr1 : relLe x.rel r1 := hd.1.trans hr1'
  have hdec : decOK r1 lens d.1 := decOK_mono hr1' hd.2
  refine ⟨⟨0, .slice none 0 0, [], r1, [], 0, ⟨x.off, x.bits, x.num, x.pk, x.pkn, x.dis, x.fed, x.pos, x.bv, x.bn, x.arr, x.prev⟩⟩, start53 h hr1, ⟨rfl, rfl⟩, rfl, rfl, relLe.refl _, rfl, rfl, rfl, ⟨rfl, rfl⟩, rfl, rfl, rfl, rfl, rfl, ⟨rfl, rfl⟩, rfl, ⟨rfl, rfl⟩, fun y hy => ?_⟩
  have hyP : y.P ≤ 8 * x.bs.length := hy.P
  have hyi := hy.ph.i
  have hgl := len_gl hy
  have hrel : relLe r1 y.rel := hy.ph.rel
  have hBl : (y.B (⟨x, vl, l, vc, vr, extra⟩ : X53)).length = 8 * x.bs.length - y.P := len53 hy
  have hBlt := lt53 (⟨x, vl, l, vc, vr, extra⟩ : X53) y
  have hBn : numL (y.B (⟨x, vl, l, vc, vr, extra⟩ : X53)) = numL (bitsOf x.big x.bs) / 2 ^ y.P := num53 hy
  have hyw := hy.w
  rw [adv0 hP0] at hyw
  refine ⟨fun h1 => ⟨by omega, by omega, fun p hp _ _ _ _ => ?_⟩, fun h1 => ?_⟩
  · have hli : y.i < l.length := by omega
    have hl60 : l.length ≤ 60 := hlight.1
    have hmem : p ∈ l := List.mem_of_getElem? hp
    obtain ⟨hk0, hk4, hpn, -, hpb⟩ := hlight.2 p hmem
    have hpn0 := hnn p hmem
    have hbad := bad53 hxx hy hp
    have hpbk := behind53 hxx hy hp
    have hroom := room48 (n := y.gl.length) (by omega)
    have hno : p.kind ≠ 4 → rsOK (x.adv y.v y.P) := fun hk => hy.no (by
      cases hb : pb l y.i with
      | false => rfl
      | true => exact absurd (hpbk hb) hk)
    rw [adv0 hP0] at hno
    have key : ∀ {q : Pt} {it : RIt} {n : Nat} {u : RV} {R R' : Rel TT}, stepM lens extra x.bs (y.B (⟨x, vl, l, vc, vr, extra⟩ : X53)) p = .got it n → relLe y.rel R → relLe R R' → itOK R it q → y.P + n ≤ 8 * x.bs.length → rsW { x.put u with P := y.P + n } → (0 < u.num → rsOK { x.put u with P := y.P + n }) → (p.kind ≠ 4 → rsOK { x.put u with P := y.P + n }) →
        ∀ gv : Value, ∃ b : Nat, ∀ m : Fz, rsW { x.put u with m := m, rel := y.rel, P := b } ∧ ∀ _ : Unit, True → (-9223372036854775808 ≤ (y.i : Int) + 1 ∧ (y.i : Int) + 1 < 9223372036854775808) ∧ ∃ z : Y53, (ph53 lens (⟨x, vl, l, vc, vr, extra⟩ : X53) r1 z ∧ l.length - z.i < l.length - y.i) ∧ (gv = z.gx ∧ y.gl.length + [q].length = z.gl.length) ∧ (y.i : Int) + 1 = (z.i : Nat) ∧ (b : Int) = (z.P : Nat) ∧ relLe z.rel R' ∧ ((u.off : Nat) : Int) = (z.v.off : Nat) ∧ ((u.bits : Nat) : Int) = (z.v.bits : Nat) ∧ ((u.num : Nat) : Int) = (z.v.num : Nat) ∧ (u.pk = z.v.pk ∧ u.pkn = z.v.pkn) ∧ u.dis = z.v.dis ∧ ((u.fed : Nat) : Int) = (z.v.fed : Nat) ∧ ((u.off : Nat) : Int) = (z.v.off : Nat) ∧ u.prev = z.v.prev ∧ ((u.pos : Nat) : Int) = (z.v.pos : Nat) ∧ (u.bv = z.v.bv ∧ u.bn = z.v.bn) ∧ u.arr = z.v.arr ∧ gv = z.gx ∧ y.gl ++ [q] = z.gl := by
      intro q it n u R R' hs hr hR hq hP hw hok1 hno1 gv
      have hw' := hw
      rw [← adv0 hP0] at hw hok1 hno1
      refine ⟨y.P + n, fun m => ⟨rsW_m hw' rfl, fun _ _ => ⟨by omega, ⟨y.i + 1, gv, y.gl ++ [q], R, y.its ++ [it], y.P + n, u⟩, ⟨next53 hxx hy hp hs hr hq hP hw hok1 hno1, by dsimp only; omega⟩, ⟨rfl, by simp⟩, rfl, rfl, hR, rfl, rfl, rfl, ⟨rfl, rfl⟩, rfl, rfl, rfl, rfl, rfl, ⟨rfl, rfl⟩, rfl, rfl, rfl⟩⟩⟩
    have key2 : ∀ {u : RV} {R : Rel TT}, stepM lens extra x.bs (y.B (⟨x, vl, l, vc, vr, extra⟩ : X53)) p = .stop → relLe y.rel R → (∃ P, rsW { x.put u with P := P }) →
        ∃ z : Y20 × RV, ps53 lens (⟨x, vl, l, vc, vr, extra⟩ : X53) z.1 z.2 ∧ (y.gx = z.1.gv ∧ y.gl = z.1.gl) ∧ (y.i : Int) = wrong z.1.st z.1.gl.length ∧ (y.P : Int) = ((8 * x.bs.length - z.1.left : Nat) : Int) ∧ relLe z.1.rel R ∧ ((u.off : Nat) : Int) = (z.2.off : Nat) ∧ ((u.bits : Nat) : Int) = (z.2.bits : Nat) ∧ ((u.num : Nat) : Int) = (z.2.num : Nat) ∧ (u.pk = z.2.pk ∧ u.pkn = z.2.pkn) ∧ u.dis = z.2.dis ∧ ((u.fed : Nat) : Int) = (z.2.fed : Nat) ∧ ((u.off : Nat) : Int) = (z.2.off : Nat) ∧ u.prev = z.2.prev ∧ ((u.pos : Nat) : Int) = (z.2.pos : Nat) ∧ (u.bv = z.2.bv ∧ u.bn = z.2.bn) ∧ u.arr = z.2.arr := by
      intro u R hs hr hw
      obtain ⟨P, hw⟩ := hw
      rw [← adv0 hP0] at hw
      refine ⟨(⟨y.gx, y.gl, R, y.its, true, 8 * x.bs.length - y.P⟩, u), stop53 hxx hr1 hy hp hs hr ⟨P, hw⟩, ⟨rfl, rfl⟩, ?_, by dsimp only; omega, relLe.refl _, rfl, rfl, rfl, ⟨rfl, rfl⟩, rfl, rfl, rfl, rfl, rfl, ⟨rfl, rfl⟩, rfl⟩
      show (y.i : Int) = ((y.gl.length : Nat) : Int)
      rw [hgl]
    refine ⟨fun hk => ?_, fun hk0' => ⟨fun hk => ?_, fun hk1' => ⟨fun hk => ?_, fun hk2' => ⟨fun hk => ?_, fun hk3' => ⟨fun hk => ?_, fun hk4' => absurd hk4' (by omega)⟩⟩⟩⟩⟩
    · have hs := step0 (lens := lens) (extra := extra) (bs := x.bs) hk hBlt
      rw [hBl, hBn] at hs
      refine ⟨y.P, fun m => ⟨⟨rs_m (hno (by omega)) rfl, by have := hpn hk; omega⟩, by omega, fun _ _ => ⟨y.P, fun m => ⟨⟨rs_m (hno (by omega)) rfl, by have := hpn hk; omega⟩, by omega, fun u hu b => ⟨rfl, hroom, ?_⟩, fun u hu => ?_⟩⟩, fun u hu b => ⟨rfl, hroom, ?_⟩⟩⟩
      · have hall : y.P + p.n.toNat ≤ 8 * x.bs.length := hu.all
        have hrs : rsOK { x.put u with P := y.P + p.n.toNat } := rs_m hu.ok rfl
        rw [if_neg (by omega)] at hs
        exact key hs (relLe.refl _) (relLe.add _ _ _ _) ⟨hk, rfl, isRo_nil⟩ hall hrs.w (fun _ => hrs) (fun _ => hrs)
      · have hall : 8 * x.bs.length < y.P + p.n.toNat := hu.all
        rw [if_pos (by omega)] at hs
        exact key2 hs (relLe.refl _) ⟨y.P, (rs_m hu.ok rfl : rsOK { x.put u.1 with P := y.P }).w⟩
      · have hall : y.P + p.n.toNat ≤ 8 * x.bs.length := hu.all
        have hrs : rsOK { x.put u with P := y.P + p.n.toNat } := rs_m hu.ok rfl
        rw [if_neg (by omega)] at hs
        exact key hs (relLe.refl _) (relLe.add _ _ _ _) ⟨hk, rfl, isRo_nil⟩ hall hrs.w (fun _ => hrs) (fun _ => hrs)
    · have hs := step1 (lens := lens) (extra := extra) (bs := x.bs) (B := y.B (⟨x, vl, l, vc, vr, extra⟩ : X53)) hk
      rw [hBl, hBn] at hs
      refine ⟨y.P, fun m => ⟨⟨rs_m (hno (by omega)) rfl, decOK_mono hrel (decOK_db hdec _)⟩, fun _ _ => ⟨y.P, fun m => ⟨⟨rs_m (hno (by omega)) rfl, decOK_mono hrel (decOK_db hdec _)⟩, fun u hu b => ⟨rfl, hroom, ?_⟩, fun u hu => ?_⟩⟩, fun u hu b => ⟨rfl, hroom, ?_⟩⟩⟩
      · have hall : y.P + cl lens (numL (bitsOf x.big x.bs) / 2 ^ y.P) ≤ 8 * x.bs.length := hu.all
        have hrs : rsOK { x.put u with P := y.P + cl lens (numL (bitsOf x.big x.bs) / 2 ^ y.P) } := rs_m hu.ok rfl
        rw [if_pos (show cl lens (numL (bitsOf x.big x.bs) / 2 ^ y.P) ≤ 8 * x.bs.length - y.P by omega)] at hs
        exact key hs (relLe.refl _) (relLe.add _ _ _ _) ⟨hk, rfl, isRo_nil⟩ hall hrs.w (fun _ => hrs) (fun _ => hrs)
      · have hall : 8 * x.bs.length < y.P + cl lens (numL (bitsOf x.big x.bs) / 2 ^ y.P) := hu.all
        rw [if_neg (show ¬ cl lens (numL (bitsOf x.big x.bs) / 2 ^ y.P) ≤ 8 * x.bs.length - y.P by omega)] at hs
        exact key2 hs (relLe.refl _) ⟨y.P, (rs_m hu.ok rfl : rsOK { x.put u.1 with P := y.P }).w⟩
      · have hall : y.P + cl lens (numL (bitsOf x.big x.bs) / 2 ^ y.P) ≤ 8 * x.bs.length := hu.all
        have hrs : rsOK { x.put u with P := y.P + cl lens (numL (bitsOf x.big x.bs) / 2 ^ y.P) } := rs_m hu.ok rfl
        rw [if_pos (show cl lens (numL (bitsOf x.big x.bs) / 2 ^ y.P) ≤ 8 * x.bs.length - y.P by omega)] at hs
        exact key hs (relLe.refl _) (relLe.add _ _ _ _) ⟨hk, rfl, isRo_nil⟩ hall hrs.w (fun _ => hrs) (fun _ => hrs)
    · have hs := step2 (lens := lens) (extra := extra) (bs := x.bs) hk hBlt
      rw [hBl, hBn] at hs
      refine ⟨y.P, fun m => ⟨⟨rs_m (hno (by omega)) rfl, decOK_mono hrel (decOK_db hdec _), hex30, hex20, fun hle => ?_⟩, fun u hu b => ⟨rfl, hroom, ?_⟩, fun u hu => ?_, fun u hu => ?_⟩⟩
      · have hle2 : cl lens (numL (bitsOf x.big x.bs) / 2 ^ y.P) ≤ 8 * x.bs.length - y.P := hle
        show cd lens (numL (bitsOf x.big x.bs) / 2 ^ y.P) < extra.length
        refine Nat.lt_of_not_le fun hbd => hbad ?_
        rw [hs, if_pos hle2, if_pos hbd]
      · have hall : y.P + (cl lens (numL (bitsOf x.big x.bs) / 2 ^ y.P) + extra.getD (cd lens (numL (bitsOf x.big x.bs) / 2 ^ y.P)) 0) ≤ 8 * x.bs.length := hu.all
        have hrs : rsOK { x.put u with P := y.P + (cl lens (numL (bitsOf x.big x.bs) / 2 ^ y.P) + extra.getD (cd lens (numL (bitsOf x.big x.bs) / 2 ^ y.P)) 0) } := rs_m hu.ok rfl
        rw [if_pos (show cl lens (numL (bitsOf x.big x.bs) / 2 ^ y.P) ≤ 8 * x.bs.length - y.P by omega)] at hs
        have hnb : ¬ extra.length ≤ cd lens (numL (bitsOf x.big x.bs) / 2 ^ y.P) := fun hbd => hbad (by rw [hs, if_pos hbd])
        rw [if_neg hnb, if_neg (by omega)] at hs
        exact key hs (relLe.refl _) (relLe.add _ _ _ _) ⟨hk, rfl, isRo_nil⟩ hall hrs.w (fun _ => hrs) (fun _ => hrs)
      · have hall : 8 * x.bs.length < y.P + cl lens (numL (bitsOf x.big x.bs) / 2 ^ y.P) := hu.all
        rw [if_neg (show ¬ cl lens (numL (bitsOf x.big x.bs) / 2 ^ y.P) ≤ 8 * x.bs.length - y.P by omega)] at hs
        exact key2 hs (relLe.refl _) ⟨y.P, (rs_m hu.ok rfl : rsOK { x.put u.1 with P := y.P }).w⟩
      · have hone : y.P + cl lens (numL (bitsOf x.big x.bs) / 2 ^ y.P) ≤ 8 * x.bs.length := hu.one
        have hall : 8 * x.bs.length < y.P + (cl lens (numL (bitsOf x.big x.bs) / 2 ^ y.P) + extra.getD (cd lens (numL (bitsOf x.big x.bs) / 2 ^ y.P)) 0) := hu.two.all
        rw [if_pos (show cl lens (numL (bitsOf x.big x.bs) / 2 ^ y.P) ≤ 8 * x.bs.length - y.P by omega)] at hs
        have hnb : ¬ extra.length ≤ cd lens (numL (bitsOf x.big x.bs) / 2 ^ y.P) := fun hbd => hbad (by rw [hs, if_pos hbd])
        rw [if_neg hnb, if_pos (by omega)] at hs
        obtain ⟨k, hk2⟩ := hu.two.ok
        exact key2 hs (relLe.refl _) ⟨y.P + k, (rs_m hk2 rfl : rsOK { x.put u.1 with P := y.P + k }).w⟩
    · have hs := step3 (lens := lens) (extra := extra) (bs := x.bs) hk hBlt
      rw [hBl, hBn] at hs
      refine ⟨y.P, fun m => ⟨rs_m (hno (by omega)) rfl, fun u hu b => ⟨rfl, hroom, ?_⟩⟩⟩
      have hall : y.P + (8 * x.bs.length - y.P) % 8 ≤ 8 * x.bs.length := hu.all
      have hrs : rsOK { x.put u with P := y.P + (8 * x.bs.length - y.P) % 8 } := rs_m hu.ok rfl
      exact key hs (relLe.refl _) (relLe.add _ _ _ _) ⟨hk, rfl, isRo_nil⟩ hall hrs.w (fun _ => hrs) (fun _ => hrs)
    · have hs := step4 (lens := lens) (extra := extra) (bs := x.bs) (B := y.B (⟨x, vl, l, vc, vr, extra⟩ : X53)) hk
      rw [hBl] at hs
      have h8 : (8 * x.bs.length - y.P) % 8 = 0 := by
        refine Decidable.byContradiction fun h8 => hbad ?_
        rw [hs, if_pos h8]
      rw [if_neg (by omega)] at hs
      have hal : y.P % 8 = 0 := by omega
      have hp40 := hpb hk
      have hmn := mnI_small hpn0 hp40
      have hok4 := hy.ok
      rw [adv0 hP0] at hok4
      rw [hmn]
      simp only [Int.toNat_natCast, List.length_replicate]
      refine ⟨⟨by omega, by omega, ⟨by omega, by omega⟩⟩, fun bx => ⟨y.P, fun m => ⟨⟨rsW_m hyw rfl, fun h0 => rs_m (hok4 h0) rfl, hal⟩, trivial, trivial, fun u hu => fun A c hv b => ⟨rfl, hroom, ?_⟩, fun u hu => ?_⟩⟩⟩
      · have hall : y.P + 8 * p.n.toNat ≤ 8 * x.bs.length := hu.all
        have hw4 := hu.w
        have ho4 := hu.ok
        rw [if_neg (show ¬ (8 * x.bs.length - y.P) / 8 < p.n.toNat by omega), show x.bs.length - (8 * x.bs.length - y.P) / 8 = y.P / 8 by omega] at hs
        have hlr : ((x.bs.drop (y.P / 8)).take p.n.toNat).length = p.n.toNat := by rw [List.length_take, List.length_drop]; omega
        exact key hs (relLe.add _ _ _ _) (relLe.add _ _ _ _) ⟨hk, rfl, isRo_row hv hlr⟩ hall (rsW_m hw4 rfl) (fun h0 => rs_m (ho4 h0) rfl) (fun hk' => absurd hk hk')
      · have hall : 8 * x.bs.length < y.P + 8 * p.n.toNat := by have := hu.all; rw [List.length_replicate] at this; exact this
        rw [if_pos (show (8 * x.bs.length - y.P) / 8 < p.n.toNat by omega)] at hs
        exact key2 hs (relLe.add _ _ _ _) ⟨y.P + 8 * u.2.1, rsW_m hu.w rfl⟩
  · have hii : y.i = l.length := by
      have : y.i ≤ l.length := hyi
      omega
    exact ⟨(⟨y.gx, y.gl, y.rel, y.its, false, 8 * x.bs.length - y.P⟩, y.v), end53 hr1 hy hii, ⟨rfl, rfl⟩, rfl, by dsimp only; omega, relLe.refl _, rfl, rfl, rfl, ⟨rfl, rfl⟩, rfl, rfl, rfl, rfl, rfl, ⟨rfl, rfl⟩, rfl⟩
theorem b53t_ok (G : Gl) (lens : List Nat) : ∀ f pt, b53t G lens f = some pt → SpecOK (CC G) f pt := by
  intro f pt h
  unfold b53t at h
  split at h
  · cases h; exact exPT_ok 0 fun P => loc_ok (s102 G P) _
  · cases h; exact exPT_ok 0 fun P => loc_ok (s104 G P lens) _
  · exact b53_ok G lens _ pt h
theorem s53t (G : Gl) (lens : List Nat) : SpecOK (CC G) 53 (c53t G lens).pt := specH G 4 (b53t_ok G lens) (fn := Tryz.f53) rfl NA (c53t G lens) (fun x => a53 lens x) fun ⟨x, vl, l, vc, vr, extra⟩ h => Met.of (eq_c53t G lens x vl l vc vr extra) (ok_c53t G lens x vl l vc vr extra h)
end Pc
/-
  NewReader does what its contract says; a reader that has read nothing.
-/
set_option linter.unusedVariables false
set_option maxRecDepth 100000
open Go Go.Vg Go.Proofs
namespace Pc
def cond_c52 (G : Gl) (m : Fz) (rel : Rel TT) (v : Value) (bs : List Nat) : Prop :=
 ∀ x1 : (Nat), ∃ x2 : (Nat), (True) ∧ 
 (x1 = x2 ∧ Off.lit 0 = Off.lit 0) ∧ 
 (m = m) ∧ (relLe rel rel) ∧ 
 (x1 = x2) ∧ 
 (v = v ∧ ints bs = ints bs) ∧ 
 ((0 : Int) = (0 : Int)) ∧ 
 ((-1 : Int) = (-1 : Int)) ∧ (True)
noncomputable def law_c52 (G : Gl) (m : Fz) (rel : Rel TT) (v : Value) (bs : List Nat) : VCT := fnx (CC G) (IN G no NA) noAnn Tryz.f52 (c52.args (m, rel, v, bs)) (c52.H (m, rel, v, bs)) (outK true 2 (c52.ret (m, rel, v, bs))) (c52.pan (m, rel, v, bs))
theorem eq_c52 (G : Gl) (m : Fz) (rel : Rel TT) (v : Value) (bs : List Nat) : cond_c52 G m rel v bs = (law_c52 G m rel v bs).den := by kernel_rfl
theorem ok_c52 (G : Gl) (m : Fz) (rel : Rel TT) (v : Value) (bs : List Nat) : cond_c52 G m rel v bs := by
  unfold cond_c52
  exact fun b => ⟨b, trivial, ⟨rfl, rfl⟩, rfl, relLe.refl _, rfl, ⟨rfl, rfl⟩, rfl, rfl, trivial⟩
theorem s52 (G : Gl) : SpecOK (CC G) 52 c52.pt := spec G (no_ok G) (fn := Tryz.f52) rfl NA c52 (fun _ => noAnn) fun ⟨m, rel, v, bs⟩ h => Met.of (eq_c52 G m rel v bs) (ok_c52 G m rel v bs)
/-- A reader that has read nothing. -/
theorem rs_init {m : Fz} {rel : Rel TT} {rb sb bb : Nat} {vs : Value} {bs : List Nat} {big : Bool} (h1 : ∀ b ∈ bs, b < 256) (h2 : bs.length ≤ 300) {prev : Int} : rsOK ⟨m, rel, rb, sb, bb, vs, bs, big, 0, 0, 0, 0, .slice none 0 0, 0, 0, 0, 0, .slice none 0 0, 0, List.replicate 512 0, prev⟩ where
  l := {
    bytes := h1
    len := h2
    bk := ⟨Nat.zero_le _, show 0 < 2 ^ 64 by decide, fun k hk => absurd hk (Nat.not_lt_zero k), fun k => by
      rw [show bt 0 k = 0 from by unfold bt; simp]
      exact Nat.zero_le _⟩
    al := rfl
    end_ := Nat.zero_le _
    off := Nat.zero_le _
    pos := Nat.le_refl _
    arr := List.length_replicate
    pk := vw_nil _ _ _ _
    bv := vw_nil _ _ _ _
    cov := .inr ⟨rfl, show (0 + 0) / 8 ≤ (0 + 7) / 8 by decide⟩ }
  dis := rfl
  fed := ⟨Nat.le_refl _, Nat.zero_le _⟩
end Pc
/-
  prefixAwake answers true.
-/
set_option linter.unusedVariables false
set_option maxRecDepth 100000
open Go Go.Vg Go.Proofs
namespace Pc
def cond_c19 (G : Gl) (m : Fz) (rel : Rel TT) : Prop :=
 ∀ x1 : (Nat), ∀ x2 : (Nat), ∀ x3 : (Nat), ∀ x4 : (Nat), ∀ x5 : (Nat), (x2 = x2) ∧ ∀ x6 : (Nat), (Value.slice (some (Addr.mk x1 0 none)) 2 2 = Value.slice (some (Addr.mk x1 0 none)) 2 2) ∧ (Value.slice (some (Addr.mk x1 0 none)) 2 2 = Value.slice (some (Addr.mk x1 0 none)) 2 2) ∧ ∀ x7 : (Nat), (x7 = x7) ∧ (x7 = x7) ∧ (x7 = x7) ∧ (x7 = x7) ∧ (x7 = x7) ∧ ∀ x8 : (Nat), (Value.slice (some (Addr.mk x6 0 none)) 0 0 = Value.slice (some (Addr.mk x6 0 none)) 0 0 ∧ (0 : Nat) = (0 : Nat)) ∧ 
 (Value.slice (some (Addr.mk x8 0 none)) 1 1 = Value.slice (some (Addr.mk x8 0 none)) 1 1 ∧ (1 : Nat) = (1 : Nat)) ∧ 
 ∀ x9 : (Value), (Value.slice (some (Addr.mk x1 0 none)) 2 2 = Value.slice (some (Addr.mk x1 0 none)) 2 2) ∧ (Value.slice (some (Addr.mk x1 0 none)) 2 2 = Value.slice (some (Addr.mk x1 0 none)) 2 2) ∧ ∀ x10 : (Nat), (x10 = x10) ∧ (x10 = x10) ∧ (x10 = x10) ∧ (x10 = x10) ∧ (x10 = x10) ∧ ∀ x11 : (Nat), (x9 = x9 ∧ (1 : Nat) = (1 : Nat)) ∧ 
 (Value.slice (some (Addr.mk x11 0 none)) 1 1 = Value.slice (some (Addr.mk x11 0 none)) 1 1 ∧ (1 : Nat) = (1 : Nat)) ∧ 
 ∀ x12 : (Value), ∀ x13 : (Nat), (x12 = x12) ∧ (x12 = x12) ∧ ∀ x14 : (Nat), (x14 = x14) ∧ (x14 = x14) ∧ (x13 = x13) ∧ (x13 = x13 ∧ (1 : Nat) < (28 : Nat)) ∧ 
 (x14 = x14) ∧ (x14 = x14) ∧ (x14 = x14) ∧ (x12 = x12) ∧ ((2 : Nat) = (2 : Nat) ∧ (0 : Int) ≤ (1 : Int) ∧ (1 : Int) ≤ (2 : Int) ∧ (2 : Int) ≤ (2 : Int)) ∧ 
 (x12 = x12) ∧ (x12 = x12) ∧ ∀ x15 : (Nat), (x15 = x15) ∧ (x15 = x15) ∧ (x15 = x15) ∧ (x15 = x15) ∧ (x15 = x15) ∧ (x13 = x13) ∧ (x13 = x13 ∧ (1 : Nat) < (28 : Nat)) ∧ 
 (x15 = x15) ∧ ∀ x16 : (Nat), (x16 = x16 ∧ (1 : Nat) < (28 : Nat)) ∧ 
 (x13 = x13) ∧ (x12 = x12) ∧ (x12 = x12) ∧ ∀ x17 : (Nat), (x17 = x17) ∧ (x17 = x17) ∧ (x16 = x16) ∧ (x17 = x17) ∧ (SV.toV (T := TT) (SV.o 7 210 x12 2) = SV.toV (T := TT) (SV.o 7 210 x12 2)) ∧ (SV.toV (T := TT) (SV.v (Value.int IntKind.i64 (0 : Int))) = SV.toV (T := TT) (SV.v (Value.int IntKind.i64 (0 : Int)))) ∧ (x12 = x12) ∧ (x12 = x12 ∧ (0 : Nat) < (2 : Nat)) ∧ 
 (x12 = x12) ∧ (x17 = x17) ∧ (x16 = x16) ∧ (x16 = x16 ∧ (1 : Nat) < (28 : Nat)) ∧ 
 (x12 = x12) ∧ (x12 = x12) ∧ ∀ x18 : (Nat), (x18 = x18) ∧ (x18 = x18) ∧ (x16 = x16) ∧ (x18 = x18) ∧ (SV.toV (T := TT) (SV.o 7 210 x12 2) = SV.toV (T := TT) (SV.o 7 210 x12 2)) ∧ (SV.toV (T := TT) (SV.v (Value.int IntKind.i64 (1 : Int))) = SV.toV (T := TT) (SV.v (Value.int IntKind.i64 (1 : Int)))) ∧ (x12 = x12) ∧ (x12 = x12 ∧ (1 : Nat) < (2 : Nat)) ∧ 
 (x12 = x12) ∧ (x18 = x18) ∧ (x16 = x16) ∧ (x16 = x16 ∧ (1 : Nat) < (28 : Nat)) ∧ 
 (x4 = x4) ∧ (x12 = x12) ∧ (x12 = x12) ∧ ∀ x19 : (Nat), (x19 = x19) ∧ (x19 = x19) ∧ (x19 = x19) ∧ (x19 = x19) ∧ (x19 = x19) ∧ ∀ x20 : (Nat), (Value.slice (some (Addr.mk x20 0 none)) 1 1 = Value.slice (some (Addr.mk x20 0 none)) 1 1 ∧ (1 : Nat) = (1 : Nat)) ∧ 
 ∀ x21 : (Value), (x12 = x12) ∧ (x12 = x12) ∧ ∀ x22 : (Nat), (x22 = x22) ∧ (x22 = x22) ∧ (x22 = x22) ∧ (x22 = x22) ∧ (x22 = x22) ∧ ∀ x23 : (Nat), (x21 = x21 ∧ (1 : Nat) = (1 : Nat)) ∧ 
 (Value.slice (some (Addr.mk x23 0 none)) 1 1 = Value.slice (some (Addr.mk x23 0 none)) 1 1 ∧ (1 : Nat) = (1 : Nat)) ∧ 
 ∀ x24 : (Value), (x3 = x3) ∧ (x5 = x5) ∧ (x5 = x5) ∧ (x5 = x5) ∧ (x4 = x4) ∧ (x3 = x3) ∧ (x3 = x3) ∧ (x4 = x4) ∧ (x3 = x3) ∧ (x4 = x4) ∧ ∀ x25 : (Nat), ∀ x26 : (Nat), ∀ x27 : (Nat), ∀ x28 : (Nat), ∀ x29 : (Nat), ∀ x30 : (Nat), ∀ x31 : (Nat), ∀ x32 : (Nat), ∀ x33 : (Nat), ∀ x34 : (Nat), ∀ x35 : (Nat), (x29 = x29) ∧ (x35 = x35) ∧ ∀ x36 : (Nat), (x27 = x27) ∧ ∀ x37 : (Nat), (x28 = x28) ∧ (x26 = x26) ∧ (Value.slice (some (Addr.mk x25 0 none)) 1 1 = Value.slice (some (Addr.mk x25 0 none)) 1 1) ∧ (Value.slice (some (Addr.mk x25 0 none)) 1 1 = Value.slice (some (Addr.mk x25 0 none)) 1 1) ∧ ∀ x38 : (Nat), (x38 = x38) ∧ (x38 = x38) ∧ (x38 = x38) ∧ (x38 = x38) ∧ (x35 = x35) ∧ (x35 = x35) ∧ (x35 = x35) ∧ (x35 = x35) ∧ ∀ x39 : (Nat), (x35 = x35) ∧ (x35 = x35 ∧ (0 : Nat) < (512 : Nat)) ∧ 
 (x35 = x35 ∧ (1 : Nat) < (512 : Nat)) ∧ 
 (x35 = x35 ∧ (2 : Nat) < (512 : Nat)) ∧ 
 (x35 = x35 ∧ (3 : Nat) < (512 : Nat)) ∧ 
 (x35 = x35 ∧ (4 : Nat) < (512 : Nat)) ∧ 
 (x35 = x35 ∧ (5 : Nat) < (512 : Nat)) ∧ 
 (x35 = x35 ∧ (6 : Nat) < (512 : Nat)) ∧ 
 (x35 = x35 ∧ (7 : Nat) < (512 : Nat)) ∧ 
 (x35 = x35) ∧ ((8 : Int) ≠ (0 : Int)) ∧ 
 (x35 = x35) ∧ (x35 = x35) ∧ (x35 = x35) ∧ (x35 = x35) ∧ (x35 = x35) ∧ (x35 = x35) ∧ (x35 = x35) ∧ (x35 = x35) ∧ (x35 = x35) ∧ (x35 = x35) ∧ (x35 = x35) ∧ (x35 = x35) ∧ (x35 = x35) ∧ (x35 = x35) ∧ (x31 = x31) ∧ (x35 = x35) ∧ (x35 = x35) ∧ (x35 = x35) ∧ (x35 = x35) ∧ (x35 = x35) ∧ (x35 = x35) ∧ (x35 = x35) ∧ (x35 = x35) ∧ (x35 = x35) ∧ (x35 = x35) ∧ (x35 = x35) ∧ ∀ x40 : (Nat), (x35 = x35) ∧ (x35 = x35 ∧ (0 : Nat) < (512 : Nat)) ∧ 
 (x35 = x35 ∧ (1 : Nat) < (512 : Nat)) ∧ 
 (x35 = x35 ∧ (2 : Nat) < (512 : Nat)) ∧ 
 (x35 = x35 ∧ (3 : Nat) < (512 : Nat)) ∧ 
 (x35 = x35 ∧ (4 : Nat) < (512 : Nat)) ∧ 
 (x35 = x35 ∧ (5 : Nat) < (512 : Nat)) ∧ 
 (x35 = x35 ∧ (6 : Nat) < (512 : Nat)) ∧ 
 (x35 = x35 ∧ (7 : Nat) < (512 : Nat)) ∧ 
 (x35 = x35) ∧ ((8 : Int) ≠ (0 : Int)) ∧ 
 (x35 = x35) ∧ (x35 = x35) ∧ (x35 = x35) ∧ (x35 = x35) ∧ (x35 = x35) ∧ (x35 = x35) ∧ (x35 = x35) ∧ (x35 = x35) ∧ (x34 = x34) ∧ (x34 = x34) ∧ (x34 = x34) ∧ (x34 = x34) ∧ (x34 = x34) ∧ (x34 = x34) ∧ (x34 = x34) ∧ (x34 = x34) ∧ (x34 = x34) ∧ ∀ x41 : (Value), ((capVal x41 = (64 : Nat)) → 
 (x34 = x34) ∧ (x34 = x34) ∧ (x41 = x41) ∧ ((0 : Nat) ≤ (1 : Nat) ∧ (1 : Nat) ≤ (64 : Nat) ∧ (0 : Int) ≤ (0 : Int) ∧ (0 : Int) ≤ (1 : Int) ∧ (1 : Nat) ≤ (64 : Nat)) ∧ 
 ∀ x42 : (Value), (x41 = x41 ∧ (0 : Nat) ≤ (1 : Nat) ∧ (1 : Nat) ≤ (64 : Nat)) ∧ 
 (x35 = x35 ∧ (1 : Nat) ≤ (512 : Nat)) ∧ 
 (x35 = x35) ∧ (x35 = x35) ∧ (x35 = x35) ∧ (x35 = x35) ∧ (x35 = x35) ∧ ∀ x43 : (Nat), (x34 = x34) ∧ (x34 = x34) ∧ (x41 = x41) ∧ ((0 : Nat) ≤ (1 : Nat) ∧ (1 : Nat) ≤ (64 : Nat) ∧ (0 : Int) ≤ (0 : Int) ∧ (0 : Int) ≤ (1 : Int) ∧ (1 : Nat) ≤ (64 : Nat)) ∧ 
 ∀ x44 : (Value), (Value.slice (some (Addr.mk x43 0 none)) 0 0 = Value.slice (some (Addr.mk x43 0 none)) 0 0 ∧ (0 : Nat) = (0 : Nat)) ∧ 
 (x41 = x41 ∧ (0 : Nat) ≤ (1 : Nat) ∧ (1 : Nat) ≤ (64 : Nat)) ∧ 
 ∀ x45 : (Value), (x30 = x30) ∧ (x32 = x32) ∧ (x33 = x33) ∧ (x33 = x33) ∧ (x33 = x33) ∧ (x32 = x32) ∧ (x30 = x30) ∧ (x31 = x31) ∧ (x30 = x30) ∧ (x31 = x31) ∧ (SV.toV (T := TT) (SV.v (Value.int IntKind.i64 (3 : Int))) = SV.toV (T := TT) (SV.v (Value.int IntKind.i64 (3 : Int)))) ∧ (x31 = x31) ∧ (x32 = x32) ∧ (x30 = x30) ∧ (x31 = x31) ∧ (x32 = x32) ∧ (x24 = x24) ∧ (x24 = x24 ∧ (1 : Nat) < (2 : Nat)) ∧ 
 (x24 = x24) ∧ (x45 = x45) ∧ (x45 = x45) ∧ ∃ x46 : (Unit), (True) ∧ 
 (((5 : Int) == (5 : Int)) = true) ∧ 
 (m = m) ∧ (relLe rel (relAdd (relAdd (relAdd (relAdd (relAdd (relAdd (relAdd (relAdd (relAdd (relAdd rel 90 (Value.slice (some (Addr.mk x1 0 none)) 2 2) [Cd.mk (3 : Int) (0 : Int) (1 : Int) (0 : Int), Cd.mk (5 : Int) (0 : Int) (1 : Int) (0 : Int)]) 210 x12 (List.set (List.set ([] ++ [Cd.mk (3 : Int) (0 : Int) (1 : Int) (0 : Int)] ++ [Cd.mk (5 : Int) (0 : Int) (1 : Int) (0 : Int)]) 0 (Cd.mk (3 : Int) (0 : Int) (1 : Int) (0 : Int))) 1 (Cd.mk (5 : Int) (0 : Int) (1 : Int) (1 : Int)))) 210 (Value.slice (some (Addr.mk x8 0 none)) 1 1) [Cd.mk (3 : Int) (0 : Int) (1 : Int) (0 : Int)]) 210 (Value.slice (some (Addr.mk x11 0 none)) 1 1) [Cd.mk (5 : Int) (0 : Int) (1 : Int) (0 : Int)]) 90 (Value.slice (some (Addr.mk x20 0 none)) 1 1) [Cd.mk (3 : Int) (0 : Int) (1 : Int) (0 : Int)]) 90 x24 ([Cd.mk (3 : Int) (0 : Int) (1 : Int) (0 : Int)] ++ [Cd.mk (5 : Int) (0 : Int) (1 : Int) (1 : Int)])) 90 (Value.slice (some (Addr.mk x23 0 none)) 1 1) [Cd.mk (5 : Int) (0 : Int) (1 : Int) (1 : Int)]) 36 (Value.slice (some (Addr.mk x25 0 none)) 1 1) [Pt.mk (0 : Int) (5 : Int) (3 : Int) (Sl.mk none 0 0)]) 5 x41 (List.take 0 (List.replicate 64 (0 : Int)) ++ List.take 1 (List.drop 0 (List.take 1 (List.set (List.set (List.set (List.set (List.set (List.set (List.set (List.set (List.set (List.set (List.set (List.set (List.set (List.set (List.set (List.set (List.replicate 512 (0 : Int)) 0 (0 : Int)) 1 (0 : Int)) 2 (0 : Int)) 3 (0 : Int)) 4 (0 : Int)) 5 (0 : Int)) 6 (0 : Int)) 7 (0 : Int)) 0 (5 : Int)) 1 (0 : Int)) 2 (0 : Int)) 3 (0 : Int)) 4 (0 : Int)) 5 (0 : Int)) 6 (0 : Int)) 7 (0 : Int)))) ++ List.drop 1 (List.replicate 64 (0 : Int)))) 5 x45 ([] ++ List.drop 0 (List.take 1 (List.take 0 (List.replicate 64 (0 : Int)) ++ List.take 1 (List.drop 0 (List.take 1 (List.set (List.set (List.set (List.set (List.set (List.set (List.set (List.set (List.set (List.set (List.set (List.set (List.set (List.set (List.set (List.set (List.replicate 512 (0 : Int)) 0 (0 : Int)) 1 (0 : Int)) 2 (0 : Int)) 3 (0 : Int)) 4 (0 : Int)) 5 (0 : Int)) 6 (0 : Int)) 7 (0 : Int)) 0 (5 : Int)) 1 (0 : Int)) 2 (0 : Int)) 3 (0 : Int)) 4 (0 : Int)) 5 (0 : Int)) 6 (0 : Int)) 7 (0 : Int)))) ++ List.drop 1 (List.replicate 64 (0 : Int))))))) ∧ 
 (True))
noncomputable def law_c19 (G : Gl) (m : Fz) (rel : Rel TT) : VCT := fnx (CK G) (INK G) noAnn Tryz.f19 (c19.args (m, rel)) (c19.H (m, rel)) (outK true 2 (c19.ret (m, rel))) (c19.pan (m, rel))
theorem eq_c19 (G : Gl) (m : Fz) (rel : Rel TT) : cond_c19 G m rel = (law_c19 G m rel).den := by kernel_rfl
theorem ok_c19 (G : Gl) (m : Fz) (rel : Rel TT) : cond_c19 G m rel := by
  unfold cond_c19
  simp
  intro _ _ _ _ _ _ _ _ _ _ _
  iterate 10 refine (relLe.trans ?_ (relLe.add _ _ _ _))
  exact relLe.refl _
theorem s19 (G : Gl) : SpecOK (CC G) 19 c19.pt := specK G (fn := Tryz.f19) rfl c19 fun ⟨m, rel⟩ h => Met.of (eq_c19 G m rel) (ok_c19 G m rel)
end Pc
/-
  The reference's reading does what its contracts say (part 1).
-/
set_option linter.unusedVariables false
set_option maxRecDepth 100000
open Go Go.Vg Go.Proofs
namespace Pc
def cond_c48 (G : Gl) (m : Fz) (rel : Rel TT) (v : Value) (bs : List Nat) (big : Bool) : Prop :=
 ∃ x1 : (Nat × Value), (x1.1 ≤ List.length bs) ∧ 
 (Value.slice none 0 0 = x1.2 ∧ (0 : Nat) = (8 : Nat) * x1.1) ∧ 
 ((0 : Int) = (x1.1 : Int)) ∧ 
 (m = m) ∧ (relLe rel rel) ∧ 
 (Value.slice none 0 0 = x1.2 ∧ [] = ints (bitsOf big (List.take x1.1 bs))) ∧ 
 ∀ x2 : (Nat × Value), (x2.1 ≤ List.length bs) → 
 Br (decide ((x2.1 : Int) < (↑(List.length (ints bs)) : Int)))
 (∃ x3 : (Nat × Value), (x3.1 ≤ (8 : Nat)) ∧ 
 (x2.2 = x3.2 ∧ (8 : Nat) * x2.1 = (8 : Nat) * Int.toNat (x2.1 : Int) + x3.1) ∧ 
 ((0 : Int) = (x3.1 : Int)) ∧ 
 (m = m) ∧ (relLe rel rel) ∧ 
 (x2.2 = x3.2 ∧ ints (bitsOf big (List.take x2.1 bs)) = ints (bitsOf big (List.take (Int.toNat (x2.1 : Int)) bs) ++ List.take x3.1 (byteBits big (List.getD bs (Int.toNat (x2.1 : Int)) 0)))) ∧ 
 ∀ x4 : (Nat × Value), (x4.1 ≤ (8 : Nat)) → 
 Br (decide ((x4.1 : Int) < (8 : Int)))
 (Br (big)
 ((inRange (x2.1 : Int) (List.length (ints bs))) ∧ 
 (Int.toNat (x2.1 : Int) < List.length (ints bs)) ∧ 
 ∀ x5 : (Int), ((ints bs)[Int.toNat (x2.1 : Int)]? = some x5) → 
 ((0 : Int) ≤ IntKind.wrap IntKind.u64 ((7 : Int) - (x4.1 : Int))) ∧ 
 ∀ x6 : (Nat), (x4.2 = x4.2 ∧ (8 : Nat) * Int.toNat (x2.1 : Int) + x4.1 = List.length (ints (bitsOf big (List.take (Int.toNat (x2.1 : Int)) bs) ++ List.take x4.1 (byteBits big (List.getD bs (Int.toNat (x2.1 : Int)) 0))))) ∧ 
 (Value.slice (some (Addr.mk x6 0 none)) 1 1 = Value.slice (some (Addr.mk x6 0 none)) 1 1 ∧ (1 : Nat) = List.length [bitI BinOp.and IntKind.u8 (shrI IntKind.u8 x5 (IntKind.wrap IntKind.u64 ((7 : Int) - (x4.1 : Int)))) (1 : Int)]) ∧ 
 (room (List.length (ints (bitsOf big (List.take (Int.toNat (x2.1 : Int)) bs) ++ List.take x4.1 (byteBits big (List.getD bs (Int.toNat (x2.1 : Int)) 0)))) + List.length [bitI BinOp.and IntKind.u8 (shrI IntKind.u8 x5 (IntKind.wrap IntKind.u64 ((7 : Int) - (x4.1 : Int)))) (1 : Int)]) 1) ∧ 
 ∀ x7 : (Value), ∃ x8 : (Nat × Value), (x8.1 ≤ (8 : Nat) ∧ (8 : Nat) - x8.1 < (8 : Nat) - x4.1) ∧ 
 (x7 = x8.2 ∧ (8 : Nat) * Int.toNat (x2.1 : Int) + x4.1 + List.length [bitI BinOp.and IntKind.u8 (shrI IntKind.u8 x5 (IntKind.wrap IntKind.u64 ((7 : Int) - (x4.1 : Int)))) (1 : Int)] = (8 : Nat) * Int.toNat (x2.1 : Int) + x8.1) ∧ 
 (IntKind.wrap IntKind.u64 ((x4.1 : Int) + (1 : Int)) = (x8.1 : Int)) ∧ 
 (m = m) ∧ (relLe rel (relAdd rel 5 (Value.slice (some (Addr.mk x6 0 none)) 1 1) [bitI BinOp.and IntKind.u8 (shrI IntKind.u8 x5 (IntKind.wrap IntKind.u64 ((7 : Int) - (x4.1 : Int)))) (1 : Int)])) ∧ 
 (x7 = x8.2 ∧ ints (bitsOf big (List.take (Int.toNat (x2.1 : Int)) bs) ++ List.take x4.1 (byteBits big (List.getD bs (Int.toNat (x2.1 : Int)) 0))) ++ [bitI BinOp.and IntKind.u8 (shrI IntKind.u8 x5 (IntKind.wrap IntKind.u64 ((7 : Int) - (x4.1 : Int)))) (1 : Int)] = ints (bitsOf big (List.take (Int.toNat (x2.1 : Int)) bs) ++ List.take x8.1 (byteBits big (List.getD bs (Int.toNat (x2.1 : Int)) 0)))) ∧ 
 (True))
 ((inRange (x2.1 : Int) (List.length (ints bs))) ∧ 
 (Int.toNat (x2.1 : Int) < List.length (ints bs)) ∧ 
 ∀ x5 : (Int), ((ints bs)[Int.toNat (x2.1 : Int)]? = some x5) → 
 ((0 : Int) ≤ (x4.1 : Int)) ∧ 
 ∀ x6 : (Nat), (x4.2 = x4.2 ∧ (8 : Nat) * Int.toNat (x2.1 : Int) + x4.1 = List.length (ints (bitsOf big (List.take (Int.toNat (x2.1 : Int)) bs) ++ List.take x4.1 (byteBits big (List.getD bs (Int.toNat (x2.1 : Int)) 0))))) ∧ 
 (Value.slice (some (Addr.mk x6 0 none)) 1 1 = Value.slice (some (Addr.mk x6 0 none)) 1 1 ∧ (1 : Nat) = List.length [bitI BinOp.and IntKind.u8 (shrI IntKind.u8 x5 (x4.1 : Int)) (1 : Int)]) ∧ 
 (room (List.length (ints (bitsOf big (List.take (Int.toNat (x2.1 : Int)) bs) ++ List.take x4.1 (byteBits big (List.getD bs (Int.toNat (x2.1 : Int)) 0)))) + List.length [bitI BinOp.and IntKind.u8 (shrI IntKind.u8 x5 (x4.1 : Int)) (1 : Int)]) 1) ∧ 
 ∀ x7 : (Value), ∃ x8 : (Nat × Value), (x8.1 ≤ (8 : Nat) ∧ (8 : Nat) - x8.1 < (8 : Nat) - x4.1) ∧ 
 (x7 = x8.2 ∧ (8 : Nat) * Int.toNat (x2.1 : Int) + x4.1 + List.length [bitI BinOp.and IntKind.u8 (shrI IntKind.u8 x5 (x4.1 : Int)) (1 : Int)] = (8 : Nat) * Int.toNat (x2.1 : Int) + x8.1) ∧ 
 (IntKind.wrap IntKind.u64 ((x4.1 : Int) + (1 : Int)) = (x8.1 : Int)) ∧ 
 (m = m) ∧ (relLe rel (relAdd rel 5 (Value.slice (some (Addr.mk x6 0 none)) 1 1) [bitI BinOp.and IntKind.u8 (shrI IntKind.u8 x5 (x4.1 : Int)) (1 : Int)])) ∧ 
 (x7 = x8.2 ∧ ints (bitsOf big (List.take (Int.toNat (x2.1 : Int)) bs) ++ List.take x4.1 (byteBits big (List.getD bs (Int.toNat (x2.1 : Int)) 0))) ++ [bitI BinOp.and IntKind.u8 (shrI IntKind.u8 x5 (x4.1 : Int)) (1 : Int)] = ints (bitsOf big (List.take (Int.toNat (x2.1 : Int)) bs) ++ List.take x8.1 (byteBits big (List.getD bs (Int.toNat (x2.1 : Int)) 0)))) ∧ 
 (True)))
 ((inI64 ((x2.1 : Int) + (1 : Int))) ∧ 
 ∃ x5 : (Nat × Value), (x5.1 ≤ List.length bs ∧ List.length bs - x5.1 < List.length bs - x2.1) ∧ 
 (x4.2 = x5.2 ∧ (8 : Nat) * Int.toNat (x2.1 : Int) + x4.1 = (8 : Nat) * x5.1) ∧ 
 ((x2.1 : Int) + (1 : Int) = (x5.1 : Int)) ∧ 
 (m = m) ∧ (relLe rel rel) ∧ 
 (x4.2 = x5.2 ∧ ints (bitsOf big (List.take (Int.toNat (x2.1 : Int)) bs) ++ List.take x4.1 (byteBits big (List.getD bs (Int.toNat (x2.1 : Int)) 0))) = ints (bitsOf big (List.take x5.1 bs))) ∧ 
 (True)))
 ((x2.2 = x2.2 ∧ (8 : Nat) * x2.1 = List.length (ints (bitsOf big (List.take x2.1 bs)))) ∧ 
 ∃ x3 : (Value), (True) ∧ 
 (x2.2 = x3 ∧ ints (bitsOf big (List.take x2.1 bs)) = ints (bitsOf big bs)) ∧ 
 (m = m) ∧ (relLe rel rel) ∧ 
 (True))
noncomputable def law_c48 (G : Gl) (m : Fz) (rel : Rel TT) (v : Value) (bs : List Nat) (big : Bool) : VCT := fnx (CC G) (IN G no NA) (a48 bs big) Tryz.f48 (c48.args (m, rel, v, bs, big)) (c48.H (m, rel, v, bs, big)) (outK true 2 (c48.ret (m, rel, v, bs, big))) (c48.pan (m, rel, v, bs, big))
theorem eq_c48 (G : Gl) (m : Fz) (rel : Rel TT) (v : Value) (bs : List Nat) (big : Bool) : cond_c48 G m rel v bs big = (law_c48 G m rel v bs big).den := by kernel_rfl
def cond_c49 (G : Gl) (m : Fz) (rel : Rel TT) (b : Nat) (v : Value) (B : List Nat) (n : Nat) : Prop :=
 (b = b) ∧ Br (decide (IntKind.wrap IntKind.u64 (↑(List.length (ints B)) : Int) < (↑n : Int)))
 (((∃ x1 : (Unit), (List.length B < n) ∧ 
 ((0 : Int) = (0 : Int)) ∧ 
 (false = false) ∧ (m = m) ∧ (relLe rel rel) ∧ 
 (b = b) ∧ (v = v ∧ ints B = ints B) ∧ 
 (True)) ∨
 (∃ x1 : (Value), (n ≤ List.length B) ∧ 
 ((0 : Int) = (↑(numL (List.take n B)) : Int)) ∧ 
 (false = true) ∧ 
 (m = m) ∧ (relLe rel rel) ∧ 
 (b = b) ∧ (v = x1 ∧ ints B = ints (List.drop n B)) ∧ 
 (True))))
 (∃ x1 : (Nat), (x1 ≤ n) ∧ 
 ((0 : Int) = (↑(numL (List.take x1 B)) : Int)) ∧ 
 ((0 : Int) = (x1 : Int)) ∧ 
 (m = m) ∧ (relLe rel rel) ∧ 
 (b = b) ∧ (v = v ∧ ints B = ints B) ∧ 
 ∀ x2 : (Nat), (x2 ≤ n) → 
 Br (decide ((x2 : Int) < (↑n : Int)))
 ((b = b) ∧ (inRange (x2 : Int) (List.length (ints B))) ∧ 
 (Int.toNat (x2 : Int) < List.length (ints B)) ∧ 
 ∀ x3 : (Int), ((ints B)[Int.toNat (x2 : Int)]? = some x3) → 
 ((0 : Int) ≤ (x2 : Int)) ∧ 
 ∃ x4 : (Nat), (x4 ≤ n ∧ n - x4 < n - x2) ∧ 
 (bitI BinOp.or IntKind.u64 (↑(numL (List.take x2 B)) : Int) (shlI IntKind.u64 (IntKind.wrap IntKind.u64 x3) (x2 : Int)) = (↑(numL (List.take x4 B)) : Int)) ∧ 
 (IntKind.wrap IntKind.u64 ((x2 : Int) + (1 : Int)) = (x4 : Int)) ∧ 
 (m = m) ∧ (relLe rel rel) ∧ 
 (b = b) ∧ (v = v ∧ ints B = ints B) ∧ 
 (True))
 ((b = b) ∧ ((0 : Int) ≤ (↑n : Int) ∧ (↑n : Int) ≤ (↑(List.length (ints B)) : Int) ∧ (↑(List.length (ints B)) : Int) ≤ (↑(List.length (ints B)) : Int)) ∧ 
 (b = b) ∧ ((∃ x3 : (Unit), (List.length B < n) ∧ 
 ((↑(numL (List.take x2 B)) : Int) = (0 : Int)) ∧ 
 (true = false) ∧ 
 (m = m) ∧ (relLe rel (noteS (SV.segs (SV.ro 5 (sliceVal v (Int.toNat (↑n : Int)) (Int.toNat (↑(List.length (ints B)) : Int)) 1) (List.drop (Int.toNat (↑n : Int)) (List.take (Int.toNat (↑(List.length (ints B)) : Int)) (ints B))))) rel)) ∧ 
 (b = b) ∧ (sliceVal v (Int.toNat (↑n : Int)) (Int.toNat (↑(List.length (ints B)) : Int)) 1 = v ∧ List.drop (Int.toNat (↑n : Int)) (List.take (Int.toNat (↑(List.length (ints B)) : Int)) (ints B)) = ints B) ∧ 
 (True)) ∨
 (∃ x3 : (Value), (n ≤ List.length B) ∧ 
 ((↑(numL (List.take x2 B)) : Int) = (↑(numL (List.take n B)) : Int)) ∧ 
 (true = true) ∧ (m = m) ∧ (relLe rel (noteS (SV.segs (SV.ro 5 (sliceVal v (Int.toNat (↑n : Int)) (Int.toNat (↑(List.length (ints B)) : Int)) 1) (List.drop (Int.toNat (↑n : Int)) (List.take (Int.toNat (↑(List.length (ints B)) : Int)) (ints B))))) rel)) ∧ 
 (b = b) ∧ (sliceVal v (Int.toNat (↑n : Int)) (Int.toNat (↑(List.length (ints B)) : Int)) 1 = x3 ∧ List.drop (Int.toNat (↑n : Int)) (List.take (Int.toNat (↑(List.length (ints B)) : Int)) (ints B)) = ints (List.drop n B)) ∧ 
 (True)))))
noncomputable def law_c49 (G : Gl) (m : Fz) (rel : Rel TT) (b : Nat) (v : Value) (B : List Nat) (n : Nat) : VCT := fnx (CC G) (IN G no NA) (a49 B n) Tryz.f49 (c49.args (⟨m, rel, b, v, B⟩, n)) (c49.H (⟨m, rel, b, v, B⟩, n)) (outK true 3 (c49.ret (⟨m, rel, b, v, B⟩, n))) (c49.pan (⟨m, rel, b, v, B⟩, n))
theorem eq_c49 (G : Gl) (m : Fz) (rel : Rel TT) (b : Nat) (v : Value) (B : List Nat) (n : Nat) : cond_c49 G m rel b v B n = (law_c49 G m rel b v B n).den := by kernel_rfl
def cond_c50 (G : Gl) (m : Fz) (rel : Rel TT) (b : Nat) (v : Value) (B : List Nat) (y : Value) (lens : List Nat) : Prop :=
 ∃ x1 : (Nat), ((1 : Nat) ≤ x1 ∧ x1 ≤ (21 : Nat) ∧ x1 ≤ List.length B + (1 : Nat) ∧ x1 ≤ cl lens (numL B)) ∧ 
 ((0 : Int) = (↑(numL (List.take (x1 - (1 : Nat)) B)) : Int)) ∧ 
 ((1 : Int) = (x1 : Int)) ∧ 
 (m = m) ∧ (relLe rel rel) ∧ 
 (b = b) ∧ (v = v ∧ ints B = ints B) ∧ 
 ∀ x2 : (Nat), ((1 : Nat) ≤ x2 ∧ x2 ≤ (21 : Nat) ∧ x2 ≤ List.length B + (1 : Nat) ∧ x2 ≤ cl lens (numL B)) → 
 Br (decide ((x2 : Int) ≤ (20 : Int)))
 ((inI64 (x2 : Int)) ∧ 
 (b = b) ∧ Br (decide ((x2 : Int) ≤ (↑(List.length (ints B)) : Int)))
 ((b = b) ∧ (inRange (IntKind.wrap IntKind.u32 ((x2 : Int) - (1 : Int))) (List.length (ints B))) ∧ 
 (Int.toNat (IntKind.wrap IntKind.u32 ((x2 : Int) - (1 : Int))) < List.length (ints B)) ∧ 
 ∀ x3 : (Int), ((ints B)[Int.toNat (IntKind.wrap IntKind.u32 ((x2 : Int) - (1 : Int)))]? = some x3) → 
 ((0 : Int) ≤ IntKind.wrap IntKind.u32 ((x2 : Int) - (1 : Int))) ∧ 
 ∃ x4 : (Nat), (x4 ≤ List.length lens ∧ (cl lens (numL B) = Int.toNat (x2 : Int) → x4 ≤ cd lens (numL B))) ∧ 
 ((0 : Int) = (x4 : Int)) ∧ 
 (m = m) ∧ (relLe rel rel) ∧ 
 (b = b) ∧ (v = v ∧ ints B = ints B) ∧ 
 ∀ x5 : (Nat), (x5 ≤ List.length lens ∧ (cl lens (numL B) = Int.toNat (x2 : Int) → x5 ≤ cd lens (numL B))) → 
 Br (decide ((x5 : Int) < (↑(List.length (canonL lens)) : Int)))
 ((inRange (x5 : Int) (List.length (canonL lens))) ∧ 
 (Int.toNat (x5 : Int) < List.length (canonL lens)) ∧ 
 (Int.toNat (x5 : Int) < List.length (canonL lens)) ∧ 
 ∀ x6 : (Cd), ((canonL lens)[Int.toNat (x5 : Int)]? = some x6) → 
 Br (x6.len == (x2 : Int))
 ((inRange (x5 : Int) (List.length (canonL lens))) ∧ 
 (Int.toNat (x5 : Int) < List.length (canonL lens)) ∧ 
 (Int.toNat (x5 : Int) < List.length (canonL lens)) ∧ 
 ∀ x7 : (Cd), ((canonL lens)[Int.toNat (x5 : Int)]? = some x7) → 
 Br (x7.val == bitI BinOp.or IntKind.u32 (↑(numL (List.take (x2 - (1 : Nat)) B)) : Int) (shlI IntKind.u32 (IntKind.wrap IntKind.u32 x3) (IntKind.wrap IntKind.u32 ((x2 : Int) - (1 : Int)))))
 ((b = b) ∧ ((0 : Int) ≤ (x2 : Int) ∧ (x2 : Int) ≤ (↑(List.length (ints B)) : Int) ∧ (↑(List.length (ints B)) : Int) ≤ (↑(List.length (ints B)) : Int)) ∧ 
 (b = b) ∧ (inRange (x5 : Int) (List.length (canonL lens))) ∧ 
 (Int.toNat (x5 : Int) < List.length (canonL lens)) ∧ 
 (Int.toNat (x5 : Int) < List.length (canonL lens)) ∧ 
 ∀ x8 : (Cd), ((canonL lens)[Int.toNat (x5 : Int)]? = some x8) → 
 ((∃ x9 : (Unit), (symM lens B = none) ∧ 
 (IntKind.wrap IntKind.u64 x8.sym = (0 : Int)) ∧ 
 (true = false) ∧ 
 (m = m) ∧ (relLe rel (noteS (SV.segs (SV.ro 5 (sliceVal v (Int.toNat (x2 : Int)) (Int.toNat (↑(List.length (ints B)) : Int)) 1) (List.drop (Int.toNat (x2 : Int)) (List.take (Int.toNat (↑(List.length (ints B)) : Int)) (ints B))))) rel)) ∧ 
 (b = b) ∧ (sliceVal v (Int.toNat (x2 : Int)) (Int.toNat (↑(List.length (ints B)) : Int)) 1 = v ∧ List.drop (Int.toNat (x2 : Int)) (List.take (Int.toNat (↑(List.length (ints B)) : Int)) (ints B)) = ints B) ∧ 
 (True)) ∨
 (∃ x9 : (Value), (symM lens B = some (cd lens (numL B))) ∧ 
 (IntKind.wrap IntKind.u64 x8.sym = (↑(cd lens (numL B)) : Int)) ∧ 
 (true = true) ∧ (m = m) ∧ (relLe rel (noteS (SV.segs (SV.ro 5 (sliceVal v (Int.toNat (x2 : Int)) (Int.toNat (↑(List.length (ints B)) : Int)) 1) (List.drop (Int.toNat (x2 : Int)) (List.take (Int.toNat (↑(List.length (ints B)) : Int)) (ints B))))) rel)) ∧ 
 (b = b) ∧ (sliceVal v (Int.toNat (x2 : Int)) (Int.toNat (↑(List.length (ints B)) : Int)) 1 = x9 ∧ List.drop (Int.toNat (x2 : Int)) (List.take (Int.toNat (↑(List.length (ints B)) : Int)) (ints B)) = ints (List.drop (cl lens (numL B)) B)) ∧ 
 (True))))
 ((inI64 ((x5 : Int) + (1 : Int))) ∧ 
 ∃ x8 : (Nat), ((x8 ≤ List.length lens ∧ (cl lens (numL B) = Int.toNat (x2 : Int) → x8 ≤ cd lens (numL B))) ∧ List.length lens - x8 < List.length lens - x5) ∧ 
 ((x5 : Int) + (1 : Int) = (x8 : Int)) ∧ 
 (m = m) ∧ (relLe rel rel) ∧ 
 (b = b) ∧ (v = v ∧ ints B = ints B) ∧ 
 (True)))
 ((inI64 ((x5 : Int) + (1 : Int))) ∧ 
 ∃ x7 : (Nat), ((x7 ≤ List.length lens ∧ (cl lens (numL B) = Int.toNat (x2 : Int) → x7 ≤ cd lens (numL B))) ∧ List.length lens - x7 < List.length lens - x5) ∧ 
 ((x5 : Int) + (1 : Int) = (x7 : Int)) ∧ 
 (m = m) ∧ (relLe rel rel) ∧ 
 (b = b) ∧ (v = v ∧ ints B = ints B) ∧ 
 (True)))
 (∃ x6 : (Nat), (((1 : Nat) ≤ x6 ∧ x6 ≤ (21 : Nat) ∧ x6 ≤ List.length B + (1 : Nat) ∧ x6 ≤ cl lens (numL B)) ∧ (21 : Nat) - x6 < (21 : Nat) - x2) ∧ 
 (bitI BinOp.or IntKind.u32 (↑(numL (List.take (x2 - (1 : Nat)) B)) : Int) (shlI IntKind.u32 (IntKind.wrap IntKind.u32 x3) (IntKind.wrap IntKind.u32 ((x2 : Int) - (1 : Int)))) = (↑(numL (List.take (x6 - (1 : Nat)) B)) : Int)) ∧ 
 (IntKind.wrap IntKind.u32 ((x2 : Int) + (1 : Int)) = (x6 : Int)) ∧ 
 (m = m) ∧ (relLe rel rel) ∧ 
 (b = b) ∧ (v = v ∧ ints B = ints B) ∧ 
 (True)))
 (((∃ x3 : (Unit), (symM lens B = none) ∧ 
 ((0 : Int) = (0 : Int)) ∧ 
 (false = false) ∧ (m = m) ∧ (relLe rel rel) ∧ 
 (b = b) ∧ (v = v ∧ ints B = ints B) ∧ 
 (True)) ∨
 (∃ x3 : (Value), (symM lens B = some (cd lens (numL B))) ∧ 
 ((0 : Int) = (↑(cd lens (numL B)) : Int)) ∧ 
 (false = true) ∧ 
 (m = m) ∧ (relLe rel rel) ∧ 
 (b = b) ∧ (v = x3 ∧ ints B = ints (List.drop (cl lens (numL B)) B)) ∧ 
 (True)))))
 (((∃ x3 : (Unit), (symM lens B = none) ∧ 
 ((0 : Int) = (0 : Int)) ∧ 
 (false = false) ∧ (m = m) ∧ (relLe rel rel) ∧ 
 (b = b) ∧ (v = v ∧ ints B = ints B) ∧ 
 (True)) ∨
 (∃ x3 : (Value), (symM lens B = some (cd lens (numL B))) ∧ 
 ((0 : Int) = (↑(cd lens (numL B)) : Int)) ∧ 
 (false = true) ∧ 
 (m = m) ∧ (relLe rel rel) ∧ 
 (b = b) ∧ (v = x3 ∧ ints B = ints (List.drop (cl lens (numL B)) B)) ∧ 
 (True))))
noncomputable def law_c50 (G : Gl) (m : Fz) (rel : Rel TT) (b : Nat) (v : Value) (B : List Nat) (y : Value) (lens : List Nat) : VCT := fnx (CC G) (IN G no NA) (a50 B lens) Tryz.f50 (c50.args (⟨m, rel, b, v, B⟩, y, lens)) (c50.H (⟨m, rel, b, v, B⟩, y, lens)) (outK true 3 (c50.ret (⟨m, rel, b, v, B⟩, y, lens))) (c50.pan (⟨m, rel, b, v, B⟩, y, lens))
theorem eq_c50 (G : Gl) (m : Fz) (rel : Rel TT) (b : Nat) (v : Value) (B : List Nat) (y : Value) (lens : List Nat) : cond_c50 G m rel b v B y lens = (law_c50 G m rel b v B y lens).den := by kernel_rfl
theorem ok_c48 (G : Gl) (m : Fz) (rel : Rel TT) (v : Value) (bs : List Nat) (big : Bool) (hb : ∀ n ∈ bs, n < 256) (hl : bs.length ≤ 1000000) : cond_c48 G m rel v bs big := by
  unfold cond_c48
  simp only [br_d, rel_self, rel_add, true_and, and_true, inRange, inI64, Int.toNat_natCast, ints_len]
  refine ⟨(0, .slice none 0 0), Nat.zero_le _, ⟨rfl, rfl⟩, rfl, ⟨rfl, rfl⟩, fun x hx => ⟨fun h1 => ⟨(0, x.2), Nat.zero_le _, ⟨rfl, rfl⟩, rfl, ⟨rfl, ?_⟩, fun y hy => ⟨fun h2 => ?_, fun h2 => ⟨by omega, (x.1 + 1, y.2), by dsimp only; omega, ⟨rfl, by dsimp only; omega⟩, rfl, rfl, ?_⟩⟩⟩, fun h1 => ⟨?_, x.2, rfl, ?_⟩⟩⟩
  · simp
  · have hlt : x.1 < bs.length := by omega
    have hn : bs[x.1]? = some (bs.getD x.1 0) := by rw [List.getD_eq_getElem?_getD, List.getElem?_eq_getElem hlt]; rfl
    have h256 := hb _ (getD_mem hlt)
    have hk : (ints bs)[x.1]? = some ((bs.getD x.1 0 : Nat) : Int) := by unfold ints; rw [List.getElem?_map, hn]; rfl
    generalize bs.getD x.1 0 = c at *
    have hw : IntKind.u64.wrap (7 - (y.1 : Int)) = ((7 - y.1 : Nat) : Int) := by rw [wr64]; omega
    have bit : ∀ k : Nat, k < 8 → bitI BinOp.and IntKind.u8 (shrI IntKind.u8 (c : Int) (k : Int)) 1 = ((bt c k : Nat) : Int) := by
      intro k hk
      rw [shrN, show (1 : Int) = ((1 : Nat) : Int) from rfl, andN rfl _ (by decide), and_one, show min k IntKind.u8.bits = k by simp only [IntKind.bits]; omega]
      · rfl
      · exact Nat.lt_of_le_of_lt (Nat.div_le_self _ _) h256
    have step : ∀ k : Nat, k = (if big = true then 7 - y.1 else y.1) → ints (bitsOf big (List.take x.1 bs) ++ List.take y.1 (byteBits big c)) ++ [((bt c k : Nat) : Int)] = ints (bitsOf big (List.take x.1 bs) ++ List.take (y.1 + 1) (byteBits big c)) := by
      intro k hk
      have : (byteBits big c)[y.1]? = some (bt c k) := by
        unfold byteBits
        rw [List.getElem?_map, List.getElem?_range (by omega), hk]; rfl
      rw [take_succ this]
      simp [ints]
    have len : 8 * x.1 + y.1 = (bitsOf big (List.take x.1 bs) ++ List.take y.1 (byteBits big c)).length := by
      rw [List.length_append, bitsOf_len, List.length_take, List.length_take, byteBits_len]; omega
    simp only [hk, Option.some.injEq, forall_eq', hw, bit (7 - y.1) (by omega), bit y.1 (by omega), ← len, List.length_singleton, room]
    refine br_mk (fun hbig => ?_) (fun hbig => ?_)
    · refine ⟨by omega, by omega, by omega, fun b => ⟨trivial, trivial, by omega, fun z => ⟨(y.1 + 1, z), by dsimp only; omega, ⟨rfl, rfl⟩, ?_, rfl, ?_⟩⟩⟩
      · rw [wr64]; dsimp only; omega
      · exact step _ (by rw [hbig]; rfl)
    · refine ⟨by omega, by omega, by omega, fun b => ⟨trivial, trivial, by omega, fun z => ⟨(y.1 + 1, z), by dsimp only; omega, ⟨rfl, rfl⟩, ?_, rfl, ?_⟩⟩⟩
      · rw [wr64]; dsimp only; omega
      · exact step _ (by rw [hbig]; rfl)
  · have hlt : x.1 < bs.length := by omega
    have hn : bs[x.1]? = some (bs.getD x.1 0) := by rw [List.getD_eq_getElem?_getD, List.getElem?_eq_getElem hlt]; rfl
    have h8 : List.take y.1 (byteBits big (bs.getD x.1 0)) = byteBits big (bs.getD x.1 0) := List.take_of_length_le (by rw [byteBits_len]; omega)
    rw [take_succ hn, bitsOf_app, bitsOf_cons, h8]
    simp [bitsOf]
  · rw [bitsOf_len, List.length_take]; omega
  · rw [show x.1 = bs.length by omega, List.take_length]
theorem ok_c49 (G : Gl) (m : Fz) (rel : Rel TT) (b : Nat) (v : Value) (B : List Nat) (n : Nat) (hB : ∀ b ∈ B, b < 2) (hl : B.length ≤ 8000000) (hn : n ≤ 64) : cond_c49 G m rel b v B n := by
  unfold cond_c49
  have e1 : IntKind.u64.wrap ((B.length : Nat) : Int) = (B.length : Int) := wrId rfl (by simp only [IntKind.bits]; omega)
  simp only [br_d, rel_self, true_and, and_true, inRange, Int.toNat_natCast, ints_len, e1]
  refine ⟨fun h => .inl ⟨(), by omega⟩, fun h => ⟨0, by omega, rfl, rfl, fun i hi => ⟨fun h1 => ⟨by omega, by omega, fun x hx => ?_⟩, fun h1 => ⟨by omega, .inr ⟨_, by omega, ?_, ?_, rfl, ?_⟩⟩⟩⟩⟩
  · obtain ⟨c, hc, rfl⟩ := ints_get hx
    have h2 := hB c (List.mem_of_getElem? hc)
    have h3 := numL_lt (B := B.take i) fun b hb => hB b (List.mem_of_mem_take hb)
    rw [List.length_take, Nat.min_eq_left (by omega)] at h3
    have h4 : (2 : Nat) ^ i ≤ 2 ^ 63 := Nat.pow_le_pow_right (by decide) (by omega)
    have h5 := numL_snoc hc
    have h6 : c * 2 ^ i ≤ 2 ^ 63 := by rcases (show c = 0 ∨ c = 1 by omega) with rfl | rfl <;> omega
    refine ⟨by omega, i + 1, by omega, ?_, ?_⟩
    · rw [wrId rfl (by simp only [IntKind.bits]; omega), shlN rfl, show min i IntKind.u64.bits = i by simp only [IntKind.bits]; omega, Nat.mod_eq_of_lt (by simp only [IntKind.bits]; omega), orN rfl (by simp only [IntKind.bits]; omega) (by simp only [IntKind.bits]; omega), or_add h3, h5]
    · rw [wr64]; omega
  · rw [show i = n by omega]
  · exact noteS_le _ _
  · rw [← ints_len B]; exact ints_drop B n
theorem ok_c50 (G : Gl) (m : Fz) (rel : Rel TT) (b : Nat) (v : Value) (B : List Nat) (y : Value) (lens : List Nat) (hB : ∀ b ∈ B, b < 2) (hl : B.length ≤ 8000000) (hg : Good lens) : cond_c50 G m rel b v B y lens := by
  unfold cond_c50
  simp only [br_d, br_i, rel_self, true_and, and_true, inRange, inI64, Int.toNat_natCast, ints_len, canonL_len]
  have h60 := hg.sixty
  have hcl := cl_pos hg (numL B)
  have hcd := cd_hit hg (numL B)
  refine ⟨1, by omega, rfl, rfl, fun n hn => ⟨fun h1 => ⟨by omega, fun h2 => ?_, fun h2 => .inl ⟨(), ?_⟩⟩, fun h1 => .inl ⟨(), ?_⟩⟩⟩
  · have e1 : IntKind.u32.wrap ((n : Int) - 1) = ((n - 1 : Nat) : Int) := by rw [wr32]; omega
    simp only [e1, Int.toNat_natCast]
    refine ⟨by omega, by omega, fun x hx => ⟨by omega, 0, ⟨by omega, by omega⟩, rfl, fun i hi => ?_⟩⟩
    obtain ⟨c, hc, rfl⟩ := ints_get hx
    have h2c := hB c (List.mem_of_getElem? hc)
    have h3 := numL_lt (B := B.take (n - 1)) fun b hb => hB b (List.mem_of_mem_take hb)
    rw [List.length_take, Nat.min_eq_left (by omega)] at h3
    have h4 : (2 : Nat) ^ (n - 1) ≤ 2 ^ 19 := Nat.pow_le_pow_right (by decide) (by omega)
    have h5 := numL_snoc hc
    have h6 : c * 2 ^ (n - 1) ≤ 2 ^ 19 := by rcases (show c = 0 ∨ c = 1 by omega) with rfl | rfl <;> omega
    rw [show n - 1 + 1 = n by omega] at h5
    have e2 : bitI BinOp.or IntKind.u32 ((numL (List.take (n - 1) B) : Nat) : Int) (shlI IntKind.u32 (IntKind.u32.wrap (c : Int)) ((n - 1 : Nat) : Int)) = ((numL (B.take n) : Nat) : Int) := by
      rw [wrId rfl (by simp only [IntKind.bits]; omega), shlN rfl, show min (n - 1) IntKind.u32.bits = n - 1 by simp only [IntKind.bits]; omega, Nat.mod_eq_of_lt (by simp only [IntKind.bits]; omega), orN rfl (by simp only [IntKind.bits]; omega) (by simp only [IntKind.bits]; omega), or_add h3, h5]
    simp only [e2]
    refine ⟨fun hi1 => ⟨by omega, by omega, by omega, fun d hd => ?_⟩, fun hi1 => ⟨n + 1, ⟨⟨by omega, by omega, by omega, ?_⟩, by omega⟩, ?_, ?_⟩⟩
    · obtain ⟨k, hk, rfl⟩ := canonL_get hd
      have hkd : lens.getD i 0 = k := by rw [List.getD_eq_getElem?_getD, hk]; rfl
      simp only [hd, Option.some.injEq, forall_eq']
      have other : (cl lens (numL B) = n → i ≠ cd lens (numL B)) → ∃ x7 : Nat, ((x7 ≤ lens.length ∧ (cl lens (numL B) = n → x7 ≤ cd lens (numL B))) ∧ lens.length - x7 < lens.length - i) ∧ (i : Int) + 1 = (x7 : Int) := fun h => ⟨i + 1, by omega, rfl⟩
      refine ⟨fun hkn => ⟨by omega, by omega, by omega, fun hv => ⟨by omega, by omega, by omega, by omega, .inr ?_⟩, fun hv => ⟨by omega, other fun h7 h8 => hv ?_⟩⟩, fun hkn => ⟨by omega, other fun h7 h8 => hkn ?_⟩⟩
      · have hkn : k = n := by omega
        subst hkn
        have hit : hit lens (numL B) i := by
          unfold Pc.hit
          rw [hkd, ← numL_take hB (by omega)]
          omega
        have hci := cd_eq hg (by omega) hit
        have hcl2 : cl lens (numL B) = k := by unfold cl; rw [hci, hkd]
        refine ⟨_, ?_, ?_, noteS_le _ _, rfl, ?_⟩
        · unfold symM; rw [if_pos (by omega)]
        · rw [hci]; exact wrId rfl (by simp only [IntKind.bits]; omega)
        · rw [hcl2, ← ints_len B]; exact ints_drop B k
      · have hkn : k = n := by omega
        subst hkn
        have := hcd.2
        rw [← h8] at this
        unfold Pc.hit at this
        rw [hkd, ← numL_take hB (by omega)] at this
        rw [this]
      · have : cl lens (numL B) = lens.getD i 0 := by unfold cl; rw [h8]
        omega
    · have := hi.2
      omega
    · rw [show n + 1 - 1 = n by omega]
    · rw [wr32]; omega
  · unfold symM; rw [if_neg (by omega)]
  · omega
theorem s48 (G : Gl) : SpecOK (CC G) 48 c48.pt := spec G (no_ok G) (fn := Tryz.f48) rfl NA c48 (fun x => a48 x.2.2.2.1 x.2.2.2.2) fun ⟨m, rel, v, bs, big⟩ h => Met.of (eq_c48 G m rel v bs big) (ok_c48 G m rel v bs big h.1 h.2)
theorem s49 (G : Gl) : SpecOK (CC G) 49 c49.pt := spec G (no_ok G) (fn := Tryz.f49) rfl NA c49 (fun x => a49 x.1.B x.2) fun ⟨⟨m, rel, b, v, B⟩, n⟩ h => Met.of (eq_c49 G m rel b v B n) (ok_c49 G m rel b v B n h.1 h.2.1 h.2.2)
theorem s50 (G : Gl) : SpecOK (CC G) 50 c50.pt := spec G (no_ok G) (fn := Tryz.f50) rfl NA c50 (fun x => a50 x.1.B x.2.2) fun ⟨⟨m, rel, b, v, B⟩, y, lens⟩ h => Met.of (eq_c50 G m rel b v B y lens) (ok_c50 G m rel b v B y lens h.1 h.2.1 h.2.2)
end Pc
/-
  The reference's ReadAll does what its contract says.
-/
set_option linter.unusedVariables false
set_option maxRecDepth 100000
open Go Go.Vg Go.Proofs
namespace Pc
def cond_c20 (G : Gl) (x : XR) : Prop :=
 ∀ x1 : (Nat → Option Obj), ((∀ (n : Nat), n ∈ Prod.fst (Prod.snd (Prod.snd (Prod.snd (x1, x.rel, x.vs, nats (ints x.bs), x.big)))) → n < (256 : Nat)) ∧ List.length (nats (ints x.bs)) ≤ (1000000 : Nat)) ∧ 
 (x.vs = x.vs ∧ ints x.bs = ints (nats (ints x.bs))) ∧ 
 (x.big = x.big) ∧ 
 (x1 = x1) ∧ 
 (relLe x.rel x.rel) ∧ 
 ∀ x2 : (Value), (True) → 
 (x1 = x1) ∧ 
 ∀ x3 : (Nat), (x3 = x3) ∧ (x3 = x3) ∧ ∃ x4 : (X20), (ph20 x x4) ∧ 
 (Value.slice none 0 0 = x4.gx ∧ (0 : Nat) = List.length x4.gl) ∧ 
 ((0 : Int) = (x4.i : Int)) ∧ 
 (x.m = x.m) ∧ (relLe x4.rel (noteS (SV.segs (SV.ro 5 x2 (ints (bitsOf x.big (nats (ints x.bs)))))) x.rel)) ∧ 
 (x3 = x3) ∧ (x2 = x4.w ∧ ints (bitsOf x.big (nats (ints x.bs))) = ints (X20.B x4)) ∧ 
 (Value.slice none 0 0 = x4.gx ∧ [] = x4.gl) ∧ 
 ∀ x5 : (X20), (ph20 x x5) → 
 Br (decide ((x5.i : Int) < (↑(List.length x.l) : Int)))
 ((inRange (x5.i : Int) (List.length x.l)) ∧ 
 (Int.toNat (x5.i : Int) < List.length x.l) ∧ 
 (Int.toNat (x5.i : Int) < List.length x.l) ∧ 
 ∀ x6 : (Pt), (x.l[Int.toNat (x5.i : Int)]? = some x6) → 
 (inRange (x5.i : Int) (List.length x.l)) ∧ 
 (Int.toNat (x5.i : Int) < List.length x.l) ∧ 
 (Int.toNat (x5.i : Int) < List.length x.l) ∧ 
 ∀ x7 : (Pt), (x.l[Int.toNat (x5.i : Int)]? = some x7) → 
 ∀ x8 : (Nat), (SV.toV (T := TT) (SV.ro 36 x.vl x.l) = SV.toV (T := TT) (SV.ro 36 x.vl x.l)) ∧ (SV.toV (T := TT) (SV.v (Value.int IntKind.i64 (x5.i : Int))) = SV.toV (T := TT) (SV.v (Value.int IntKind.i64 (x5.i : Int)))) ∧ (inRange (x5.i : Int) (List.length x.l)) ∧ 
 (SV.toV (T := TT) (SV.rq 36 x.vl x.l (Int.toNat (x5.i : Int)) 0) = SV.toV (T := TT) (SV.rq 36 x.vl x.l (Int.toNat (x5.i : Int)) 0)) ∧ (Int.toNat (x5.i : Int) < List.length x.l) ∧ 
 (SV.toV (T := TT) (SV.rq 36 x.vl x.l (Int.toNat (x5.i : Int)) 0) = SV.toV (T := TT) (SV.rq 36 x.vl x.l (Int.toNat (x5.i : Int)) 0)) ∧ (Int.toNat (x5.i : Int) < List.length x.l) ∧ 
 ∀ x9 : (Pt), (x.l[Int.toNat (x5.i : Int)]? = some x9) → 
 (SV.toV (T := TT) (cellS (Value.int IntKind.i64 x9.kind)) = SV.toV (T := TT) (SV.v (Value.int IntKind.i64 x6.kind))) ∧ 
 (SV.toV (T := TT) (SV.ro 36 x.vl x.l) = SV.toV (T := TT) (SV.ro 36 x.vl x.l)) ∧ (SV.toV (T := TT) (SV.v (Value.int IntKind.i64 (x5.i : Int))) = SV.toV (T := TT) (SV.v (Value.int IntKind.i64 (x5.i : Int)))) ∧ (inRange (x5.i : Int) (List.length x.l)) ∧ 
 (SV.toV (T := TT) (SV.rq 36 x.vl x.l (Int.toNat (x5.i : Int)) 0) = SV.toV (T := TT) (SV.rq 36 x.vl x.l (Int.toNat (x5.i : Int)) 0)) ∧ (Int.toNat (x5.i : Int) < List.length x.l) ∧ 
 (SV.toV (T := TT) (SV.rq 36 x.vl x.l (Int.toNat (x5.i : Int)) 2) = SV.toV (T := TT) (SV.rq 36 x.vl x.l (Int.toNat (x5.i : Int)) 2)) ∧ (Int.toNat (x5.i : Int) < List.length x.l) ∧ 
 ∀ x10 : (Pt), (x.l[Int.toNat (x5.i : Int)]? = some x10) → 
 (SV.toV (T := TT) (cellS (Value.int IntKind.u64 x10.n)) = SV.toV (T := TT) (SV.v (Value.int IntKind.u64 x7.n))) ∧ 
 (SV.toV (T := TT) (SV.a ([Seg.c (SV.v (Value.int IntKind.i64 x6.kind)), Seg.c (SV.v (Value.int IntKind.u64 (0 : Int)))] ++ SV.segs (SV.v (Value.int IntKind.u64 x7.n)) ++ [nilS])) = SV.toV (T := TT) (SV.a ([Seg.c (SV.v (Value.int IntKind.i64 x6.kind)), Seg.c (SV.v (Value.int IntKind.u64 (0 : Int)))] ++ SV.segs (SV.v (Value.int IntKind.u64 x7.n)) ++ [nilS]))) ∧ (x8 = x8) ∧ ((x8 = x8) ∧ Br (x6.kind != (4 : Int))
 (Br (decide ((x5.i : Int) > (0 : Int)))
 ((inI64 ((x5.i : Int) - (1 : Int))) ∧ 
 (inRange ((x5.i : Int) - (1 : Int)) (List.length x.l)) ∧ 
 (Int.toNat ((x5.i : Int) - (1 : Int)) < List.length x.l) ∧ 
 (Int.toNat ((x5.i : Int) - (1 : Int)) < List.length x.l) ∧ 
 ∀ x11 : (Pt), (x.l[Int.toNat ((x5.i : Int) - (1 : Int))]? = some x11) → 
 Br (x11.kind == (4 : Int))
 (((∃ x12 : (Unit), (bad20 x) ∧ 
 (Value.slice none 0 0 = Value.slice none 0 0) ∧ ((0 : Int) = (0 : Int)) ∧ 
 ((0 : Int) = (0 : Int)) ∧ 
 (false = false) ∧ (x.m = x.m) ∧ (relLe x.rel (relAdd x5.rel 36 x5.gx x5.gl)) ∧ 
 (True)) ∨
 (∃ x12 : (Y20), (ps20 x x12) ∧ 
 (Value.slice none 0 0 = Value.slice none 0 0 ∧ Value.slice none 0 0 = x12.gv ∧ x12.gl = []) ∧ 
 ((0 : Int) = wrong x12.st (List.length x12.gl)) ∧ 
 ((0 : Int) = (↑((8 : Nat) * List.length x.bs - x12.left) : Int)) ∧ 
 (false = true) ∧ 
 (x.m = x.m) ∧ (relLe x12.rel (relAdd x5.rel 36 x5.gx x5.gl)) ∧ 
 (True))))
 (∃ x12 : (Unit), (pb x.l (Int.toNat (x5.i : Int)) = true → x6.kind = (4 : Int)) ∧ 
 (x5.gx = x5.gx ∧ List.length x5.gl = List.length x5.gl) ∧ 
 (x.m = x.m) ∧ (relLe x5.rel x5.rel) ∧ 
 (x3 = x3) ∧ (x5.w = x5.w ∧ ints (X20.B x5) = ints (X20.B x5)) ∧ 
 (x5.gx = x5.gx ∧ x5.gl = x5.gl) ∧ 
 (x8 = x8) ∧ (x6.kind = x6.kind) ∧ ((0 : Int) = (0 : Int)) ∧ (x7.n = x7.n) ∧ (Value.slice none 0 0 = Value.slice none 0 0) ∧ (True)))
 (∃ x11 : (Unit), (pb x.l (Int.toNat (x5.i : Int)) = true → x6.kind = (4 : Int)) ∧ 
 (x5.gx = x5.gx ∧ List.length x5.gl = List.length x5.gl) ∧ 
 (x.m = x.m) ∧ (relLe x5.rel x5.rel) ∧ 
 (x3 = x3) ∧ (x5.w = x5.w ∧ ints (X20.B x5) = ints (X20.B x5)) ∧ 
 (x5.gx = x5.gx ∧ x5.gl = x5.gl) ∧ 
 (x8 = x8) ∧ (x6.kind = x6.kind) ∧ ((0 : Int) = (0 : Int)) ∧ (x7.n = x7.n) ∧ (Value.slice none 0 0 = Value.slice none 0 0) ∧ (True)))
 (∃ x11 : (Unit), (pb x.l (Int.toNat (x5.i : Int)) = true → x6.kind = (4 : Int)) ∧ 
 (x5.gx = x5.gx ∧ List.length x5.gl = List.length x5.gl) ∧ 
 (x.m = x.m) ∧ (relLe x5.rel x5.rel) ∧ 
 (x3 = x3) ∧ (x5.w = x5.w ∧ ints (X20.B x5) = ints (X20.B x5)) ∧ 
 (x5.gx = x5.gx ∧ x5.gl = x5.gl) ∧ 
 (x8 = x8) ∧ (x6.kind = x6.kind) ∧ ((0 : Int) = (0 : Int)) ∧ (x7.n = x7.n) ∧ (Value.slice none 0 0 = Value.slice none 0 0) ∧ (True))) ∧
 (∀ x11 : (Unit), (pb x.l (Int.toNat (x5.i : Int)) = true → x6.kind = (4 : Int)) → 
 (x3 = x3) ∧ (x8 = x8) ∧ Br (x6.kind == (0 : Int))
 ((x8 = x8) ∧ ∀ x12 : (Nat → Option Obj), ((∀ (b : Nat), b ∈ XB.B (Prod.fst (XB.mk x12 x5.rel x3 x5.w (nats (ints (X20.B x5))), Int.toNat x7.n)) → b < (2 : Nat)) ∧ List.length (nats (ints (X20.B x5))) ≤ (8000000 : Nat) ∧ Int.toNat x7.n ≤ (64 : Nat)) ∧ 
 (x3 = x3 ∧ Off.lit 0 = Off.lit 0) ∧ 
 (x7.n = (↑(Int.toNat x7.n) : Int)) ∧ 
 (x12 = x12) ∧ 
 (relLe x5.rel x5.rel) ∧ 
 (x3 = x3) ∧ 
 (x5.w = x5.w ∧ ints (X20.B x5) = ints (nats (ints (X20.B x5)))) ∧ 
 (∀ x13 : (Unit), (List.length (nats (ints (X20.B x5))) < Int.toNat x7.n) → 
 (x12 = x12) ∧ 
 (x8 = x8) ∧ (inI64 ((↑(List.length (ints (bitsOf x.big (nats (ints x.bs))))) : Int) - (↑(List.length (ints (X20.B x5))) : Int))) ∧ 
 (x5.gx = x5.gx ∧ List.length x5.gl = List.length x5.gl) ∧ 
 ((∃ x14 : (Unit), (bad20 x) ∧ 
 False /- "match: values of two makes" -/) ∨
 (∃ x14 : (Y20), (ps20 x x14) ∧ 
 (x5.gx = x14.gv ∧ x5.gl = x14.gl) ∧ 
 ((x5.i : Int) = wrong x14.st (List.length x14.gl)) ∧ 
 ((↑(List.length (ints (bitsOf x.big (nats (ints x.bs))))) : Int) - (↑(List.length (ints (X20.B x5))) : Int) = (↑((8 : Nat) * List.length x.bs - x14.left) : Int)) ∧ 
 (true = true) ∧ (x.m = x.m) ∧ (relLe x14.rel x5.rel) ∧ 
 (True)))) ∧
 (∀ x13 : (Value), (Int.toNat x7.n ≤ List.length (nats (ints (X20.B x5)))) → 
 (x12 = x12) ∧ 
 (x8 = x8) ∧ (x8 = x8) ∧ ∀ x14 : (Nat), (x5.gx = x5.gx ∧ List.length x5.gl = List.length x5.gl) ∧ 
 (Value.slice (some (Addr.mk x14 0 none)) 1 1 = Value.slice (some (Addr.mk x14 0 none)) 1 1 ∧ (1 : Nat) = List.length [Pt.mk x6.kind (↑(numL (List.take (Int.toNat x7.n) (nats (ints (X20.B x5))))) : Int) x7.n (Sl.mk none 0 0)]) ∧ 
 (room (List.length x5.gl + List.length [Pt.mk x6.kind (↑(numL (List.take (Int.toNat x7.n) (nats (ints (X20.B x5))))) : Int) x7.n (Sl.mk none 0 0)]) 48) ∧ 
 ∀ x15 : (Value), (inI64 ((x5.i : Int) + (1 : Int))) ∧ 
 ∃ x16 : (X20), (ph20 x x16 ∧ List.length x.l - x16.i < List.length x.l - x5.i) ∧ 
 (x15 = x16.gx ∧ List.length x5.gl + List.length [Pt.mk x6.kind (↑(numL (List.take (Int.toNat x7.n) (nats (ints (X20.B x5))))) : Int) x7.n (Sl.mk none 0 0)] = List.length x16.gl) ∧ 
 ((x5.i : Int) + (1 : Int) = (x16.i : Int)) ∧ 
 (x.m = x.m) ∧ (relLe x16.rel (relAdd x5.rel 36 (Value.slice (some (Addr.mk x14 0 none)) 1 1) [Pt.mk x6.kind (↑(numL (List.take (Int.toNat x7.n) (nats (ints (X20.B x5))))) : Int) x7.n (Sl.mk none 0 0)])) ∧ 
 (x3 = x3) ∧ 
 (x13 = x16.w ∧ ints (List.drop (Int.toNat x7.n) (nats (ints (X20.B x5)))) = ints (X20.B x16)) ∧ 
 (x15 = x16.gx ∧ x5.gl ++ [Pt.mk x6.kind (↑(numL (List.take (Int.toNat x7.n) (nats (ints (X20.B x5))))) : Int) x7.n (Sl.mk none 0 0)] = x16.gl) ∧ 
 (True)))
 (Br (x6.kind == (1 : Int))
 (∀ x12 : (Nat → Option Obj), ((∀ (b : Nat), b ∈ XB.B (Prod.fst (XB.mk x12 x5.rel x3 x5.w (nats (ints (X20.B x5))), x.vc, lensOf (canonL x.lens))) → b < (2 : Nat)) ∧ List.length (nats (ints (X20.B x5))) ≤ (8000000 : Nat) ∧ Good (lensOf (canonL x.lens))) ∧ 
 (x3 = x3 ∧ Off.lit 0 = Off.lit 0) ∧ 
 (x.vc = x.vc ∧ canonL x.lens = canonL (lensOf (canonL x.lens))) ∧ 
 (x12 = x12) ∧ 
 (relLe x5.rel x5.rel) ∧ 
 (x3 = x3) ∧ 
 (x5.w = x5.w ∧ ints (X20.B x5) = ints (nats (ints (X20.B x5)))) ∧ 
 (∀ x13 : (Unit), (symM (lensOf (canonL x.lens)) (nats (ints (X20.B x5))) = none) → 
 (x12 = x12) ∧ 
 (x8 = x8) ∧ (inI64 ((↑(List.length (ints (bitsOf x.big (nats (ints x.bs))))) : Int) - (↑(List.length (ints (X20.B x5))) : Int))) ∧ 
 (x5.gx = x5.gx ∧ List.length x5.gl = List.length x5.gl) ∧ 
 ((∃ x14 : (Unit), (bad20 x) ∧ 
 False /- "match: values of two makes" -/) ∨
 (∃ x14 : (Y20), (ps20 x x14) ∧ 
 (x5.gx = x14.gv ∧ x5.gl = x14.gl) ∧ 
 ((x5.i : Int) = wrong x14.st (List.length x14.gl)) ∧ 
 ((↑(List.length (ints (bitsOf x.big (nats (ints x.bs))))) : Int) - (↑(List.length (ints (X20.B x5))) : Int) = (↑((8 : Nat) * List.length x.bs - x14.left) : Int)) ∧ 
 (true = true) ∧ (x.m = x.m) ∧ (relLe x14.rel x5.rel) ∧ 
 (True)))) ∧
 (∀ x13 : (Value), (symM (lensOf (canonL x.lens)) (nats (ints (X20.B x5))) = some (cd (lensOf (canonL x.lens)) (numL (nats (ints (X20.B x5)))))) → 
 (x12 = x12) ∧ 
 (x8 = x8) ∧ (x8 = x8) ∧ ∀ x14 : (Nat), (x5.gx = x5.gx ∧ List.length x5.gl = List.length x5.gl) ∧ 
 (Value.slice (some (Addr.mk x14 0 none)) 1 1 = Value.slice (some (Addr.mk x14 0 none)) 1 1 ∧ (1 : Nat) = List.length [Pt.mk x6.kind (↑(cd (lensOf (canonL x.lens)) (numL (nats (ints (X20.B x5))))) : Int) x7.n (Sl.mk none 0 0)]) ∧ 
 (room (List.length x5.gl + List.length [Pt.mk x6.kind (↑(cd (lensOf (canonL x.lens)) (numL (nats (ints (X20.B x5))))) : Int) x7.n (Sl.mk none 0 0)]) 48) ∧ 
 ∀ x15 : (Value), (inI64 ((x5.i : Int) + (1 : Int))) ∧ 
 ∃ x16 : (X20), (ph20 x x16 ∧ List.length x.l - x16.i < List.length x.l - x5.i) ∧ 
 (x15 = x16.gx ∧ List.length x5.gl + List.length [Pt.mk x6.kind (↑(cd (lensOf (canonL x.lens)) (numL (nats (ints (X20.B x5))))) : Int) x7.n (Sl.mk none 0 0)] = List.length x16.gl) ∧ 
 ((x5.i : Int) + (1 : Int) = (x16.i : Int)) ∧ 
 (x.m = x.m) ∧ (relLe x16.rel (relAdd x5.rel 36 (Value.slice (some (Addr.mk x14 0 none)) 1 1) [Pt.mk x6.kind (↑(cd (lensOf (canonL x.lens)) (numL (nats (ints (X20.B x5))))) : Int) x7.n (Sl.mk none 0 0)])) ∧ 
 (x3 = x3) ∧ 
 (x13 = x16.w ∧ ints (List.drop (cl (lensOf (canonL x.lens)) (numL (nats (ints (X20.B x5))))) (nats (ints (X20.B x5)))) = ints (X20.B x16)) ∧ 
 (x15 = x16.gx ∧ x5.gl ++ [Pt.mk x6.kind (↑(cd (lensOf (canonL x.lens)) (numL (nats (ints (X20.B x5))))) : Int) x7.n (Sl.mk none 0 0)] = x16.gl) ∧ 
 (True)))
 (Br (x6.kind == (2 : Int))
 (∀ x12 : (Nat → Option Obj), ((∀ (b : Nat), b ∈ XB.B (Prod.fst (XB.mk x12 x5.rel x3 x5.w (nats (ints (X20.B x5))), x.vc, lensOf (canonL x.lens))) → b < (2 : Nat)) ∧ List.length (nats (ints (X20.B x5))) ≤ (8000000 : Nat) ∧ Good (lensOf (canonL x.lens))) ∧ 
 (x3 = x3 ∧ Off.lit 0 = Off.lit 0) ∧ 
 (x.vc = x.vc ∧ canonL x.lens = canonL (lensOf (canonL x.lens))) ∧ 
 (x12 = x12) ∧ 
 (relLe x5.rel x5.rel) ∧ 
 (x3 = x3) ∧ 
 (x5.w = x5.w ∧ ints (X20.B x5) = ints (nats (ints (X20.B x5)))) ∧ 
 (∀ x13 : (Unit), (symM (lensOf (canonL x.lens)) (nats (ints (X20.B x5))) = none) → 
 (x12 = x12) ∧ 
 (x8 = x8) ∧ (inI64 ((↑(List.length (ints (bitsOf x.big (nats (ints x.bs))))) : Int) - (↑(List.length (ints (X20.B x5))) : Int))) ∧ 
 (x5.gx = x5.gx ∧ List.length x5.gl = List.length x5.gl) ∧ 
 ((∃ x14 : (Unit), (bad20 x) ∧ 
 False /- "match: values of two makes" -/) ∨
 (∃ x14 : (Y20), (ps20 x x14) ∧ 
 (x5.gx = x14.gv ∧ x5.gl = x14.gl) ∧ 
 ((x5.i : Int) = wrong x14.st (List.length x14.gl)) ∧ 
 ((↑(List.length (ints (bitsOf x.big (nats (ints x.bs))))) : Int) - (↑(List.length (ints (X20.B x5))) : Int) = (↑((8 : Nat) * List.length x.bs - x14.left) : Int)) ∧ 
 (true = true) ∧ (x.m = x.m) ∧ (relLe x14.rel x5.rel) ∧ 
 (True)))) ∧
 (∀ x13 : (Value), (symM (lensOf (canonL x.lens)) (nats (ints (X20.B x5))) = some (cd (lensOf (canonL x.lens)) (numL (nats (ints (X20.B x5)))))) → 
 (x12 = x12) ∧ 
 (x8 = x8) ∧ (x8 = x8) ∧ Br (decide ((↑(cd (lensOf (canonL x.lens)) (numL (nats (ints (X20.B x5))))) : Int) ≥ IntKind.wrap IntKind.u64 (↑(List.length (rgL 0 x.extra)) : Int)))
 (((∃ x14 : (Unit), (bad20 x) ∧ 
 (Value.slice none 0 0 = Value.slice none 0 0) ∧ ((0 : Int) = (0 : Int)) ∧ 
 ((0 : Int) = (0 : Int)) ∧ 
 (false = false) ∧ (x.m = x.m) ∧ (relLe x.rel (relAdd x5.rel 36 x5.gx x5.gl)) ∧ 
 (True)) ∨
 (∃ x14 : (Y20), (ps20 x x14) ∧ 
 (Value.slice none 0 0 = Value.slice none 0 0 ∧ Value.slice none 0 0 = x14.gv ∧ x14.gl = []) ∧ 
 ((0 : Int) = wrong x14.st (List.length x14.gl)) ∧ 
 ((0 : Int) = (↑((8 : Nat) * List.length x.bs - x14.left) : Int)) ∧ 
 (false = true) ∧ 
 (x.m = x.m) ∧ (relLe x14.rel (relAdd x5.rel 36 x5.gx x5.gl)) ∧ 
 (True))))
 ((x8 = x8) ∧ (inRange (↑(cd (lensOf (canonL x.lens)) (numL (nats (ints (X20.B x5))))) : Int) (List.length (rgL 0 x.extra))) ∧ 
 (Int.toNat (↑(cd (lensOf (canonL x.lens)) (numL (nats (ints (X20.B x5))))) : Int) < List.length (rgL 0 x.extra)) ∧ 
 ∀ x14 : (Rg), ((rgL 0 x.extra)[Int.toNat (↑(cd (lensOf (canonL x.lens)) (numL (nats (ints (X20.B x5))))) : Int)]? = some x14) → 
 ∀ x15 : (Nat), (x15 = x15) ∧ (x15 = x15) ∧ ∀ x16 : (Nat → Option Obj), ((∀ (b : Nat), b ∈ XB.B (Prod.fst (XB.mk x16 (XB.rel (Prod.fst (XB.mk x12 x5.rel x3 x5.w (nats (ints (X20.B x5))), x.vc, lensOf (canonL x.lens)))) (XB.b (Prod.fst (XB.mk x12 x5.rel x3 x5.w (nats (ints (X20.B x5))), x.vc, lensOf (canonL x.lens)))) x13 (nats (ints (List.drop (cl (Prod.snd (Prod.snd (XB.mk x12 x5.rel x3 x5.w (nats (ints (X20.B x5))), x.vc, lensOf (canonL x.lens)))) (numL (XB.B (Prod.fst (XB.mk x12 x5.rel x3 x5.w (nats (ints (X20.B x5))), x.vc, lensOf (canonL x.lens)))))) (XB.B (Prod.fst (XB.mk x12 x5.rel x3 x5.w (nats (ints (X20.B x5))), x.vc, lensOf (canonL x.lens))))))), Int.toNat (IntKind.wrap IntKind.u64 x14.len))) → b < (2 : Nat)) ∧ List.length (nats (ints (List.drop (cl (lensOf (canonL x.lens)) (numL (nats (ints (X20.B x5))))) (nats (ints (X20.B x5)))))) ≤ (8000000 : Nat) ∧ Int.toNat (IntKind.wrap IntKind.u64 x14.len) ≤ (64 : Nat)) ∧ 
 (x3 = x3 ∧ Off.lit 0 = Off.lit 0) ∧ 
 (IntKind.wrap IntKind.u64 x14.len = (↑(Int.toNat (IntKind.wrap IntKind.u64 x14.len)) : Int)) ∧ 
 (x16 = x16) ∧ 
 (relLe x5.rel x5.rel) ∧ 
 (x3 = x3) ∧ 
 (x13 = x13 ∧ ints (List.drop (cl (lensOf (canonL x.lens)) (numL (nats (ints (X20.B x5))))) (nats (ints (X20.B x5)))) = ints (nats (ints (List.drop (cl (lensOf (canonL x.lens)) (numL (nats (ints (X20.B x5))))) (nats (ints (X20.B x5))))))) ∧ 
 (∀ x17 : (Unit), (List.length (nats (ints (List.drop (cl (lensOf (canonL x.lens)) (numL (nats (ints (X20.B x5))))) (nats (ints (X20.B x5)))))) < Int.toNat (IntKind.wrap IntKind.u64 x14.len)) → 
 (x16 = x16) ∧ 
 (x15 = x15) ∧ (x8 = x8) ∧ (inI64 ((↑(List.length (ints (bitsOf x.big (nats (ints x.bs))))) : Int) - (↑(List.length (ints (X20.B x5))) : Int))) ∧ 
 (x5.gx = x5.gx ∧ List.length x5.gl = List.length x5.gl) ∧ 
 ((∃ x18 : (Unit), (bad20 x) ∧ 
 False /- "match: values of two makes" -/) ∨
 (∃ x18 : (Y20), (ps20 x x18) ∧ 
 (x5.gx = x18.gv ∧ x5.gl = x18.gl) ∧ 
 ((x5.i : Int) = wrong x18.st (List.length x18.gl)) ∧ 
 ((↑(List.length (ints (bitsOf x.big (nats (ints x.bs))))) : Int) - (↑(List.length (ints (X20.B x5))) : Int) = (↑((8 : Nat) * List.length x.bs - x18.left) : Int)) ∧ 
 (true = true) ∧ (x.m = x.m) ∧ (relLe x18.rel x5.rel) ∧ 
 (True)))) ∧
 (∀ x17 : (Value), (Int.toNat (IntKind.wrap IntKind.u64 x14.len) ≤ List.length (nats (ints (List.drop (cl (lensOf (canonL x.lens)) (numL (nats (ints (X20.B x5))))) (nats (ints (X20.B x5))))))) → 
 (x16 = x16) ∧ 
 (x15 = x15) ∧ (x8 = x8) ∧ (x8 = x8) ∧ ∀ x18 : (Nat), (x5.gx = x5.gx ∧ List.length x5.gl = List.length x5.gl) ∧ 
 (Value.slice (some (Addr.mk x18 0 none)) 1 1 = Value.slice (some (Addr.mk x18 0 none)) 1 1 ∧ (1 : Nat) = List.length [Pt.mk x6.kind (IntKind.wrap IntKind.u64 (IntKind.wrap IntKind.u64 x14.base + (↑(numL (List.take (Int.toNat (IntKind.wrap IntKind.u64 x14.len)) (nats (ints (List.drop (cl (lensOf (canonL x.lens)) (numL (nats (ints (X20.B x5))))) (nats (ints (X20.B x5)))))))) : Int))) x7.n (Sl.mk none 0 0)]) ∧ 
 (room (List.length x5.gl + List.length [Pt.mk x6.kind (IntKind.wrap IntKind.u64 (IntKind.wrap IntKind.u64 x14.base + (↑(numL (List.take (Int.toNat (IntKind.wrap IntKind.u64 x14.len)) (nats (ints (List.drop (cl (lensOf (canonL x.lens)) (numL (nats (ints (X20.B x5))))) (nats (ints (X20.B x5)))))))) : Int))) x7.n (Sl.mk none 0 0)]) 48) ∧ 
 ∀ x19 : (Value), (inI64 ((x5.i : Int) + (1 : Int))) ∧ 
 ∃ x20 : (X20), (ph20 x x20 ∧ List.length x.l - x20.i < List.length x.l - x5.i) ∧ 
 (x19 = x20.gx ∧ List.length x5.gl + List.length [Pt.mk x6.kind (IntKind.wrap IntKind.u64 (IntKind.wrap IntKind.u64 x14.base + (↑(numL (List.take (Int.toNat (IntKind.wrap IntKind.u64 x14.len)) (nats (ints (List.drop (cl (lensOf (canonL x.lens)) (numL (nats (ints (X20.B x5))))) (nats (ints (X20.B x5)))))))) : Int))) x7.n (Sl.mk none 0 0)] = List.length x20.gl) ∧ 
 ((x5.i : Int) + (1 : Int) = (x20.i : Int)) ∧ 
 (x.m = x.m) ∧ (relLe x20.rel (relAdd x5.rel 36 (Value.slice (some (Addr.mk x18 0 none)) 1 1) [Pt.mk x6.kind (IntKind.wrap IntKind.u64 (IntKind.wrap IntKind.u64 x14.base + (↑(numL (List.take (Int.toNat (IntKind.wrap IntKind.u64 x14.len)) (nats (ints (List.drop (cl (lensOf (canonL x.lens)) (numL (nats (ints (X20.B x5))))) (nats (ints (X20.B x5)))))))) : Int))) x7.n (Sl.mk none 0 0)])) ∧ 
 (x3 = x3) ∧ 
 (x17 = x20.w ∧ ints (List.drop (Int.toNat (IntKind.wrap IntKind.u64 x14.len)) (nats (ints (List.drop (cl (lensOf (canonL x.lens)) (numL (nats (ints (X20.B x5))))) (nats (ints (X20.B x5))))))) = ints (X20.B x20)) ∧ 
 (x19 = x20.gx ∧ x5.gl ++ [Pt.mk x6.kind (IntKind.wrap IntKind.u64 (IntKind.wrap IntKind.u64 x14.base + (↑(numL (List.take (Int.toNat (IntKind.wrap IntKind.u64 x14.len)) (nats (ints (List.drop (cl (lensOf (canonL x.lens)) (numL (nats (ints (X20.B x5))))) (nats (ints (X20.B x5)))))))) : Int))) x7.n (Sl.mk none 0 0)] = x20.gl) ∧ 
 (True)))))
 (Br (x6.kind == (3 : Int))
 ((x3 = x3) ∧ ((8 : Int) ≠ (0 : Int)) ∧ 
 ∀ x12 : (Nat → Option Obj), ((∀ (b : Nat), b ∈ XB.B (Prod.fst (XB.mk x12 x5.rel x3 x5.w (nats (ints (X20.B x5))), Int.toNat (IntKind.wrap IntKind.u64 (Int.tmod (↑(List.length (ints (X20.B x5))) : Int) (8 : Int))))) → b < (2 : Nat)) ∧ List.length (nats (ints (X20.B x5))) ≤ (8000000 : Nat) ∧ Int.toNat (IntKind.wrap IntKind.u64 (Int.tmod (↑(List.length (ints (X20.B x5))) : Int) (8 : Int))) ≤ (64 : Nat)) ∧ 
 (x3 = x3 ∧ Off.lit 0 = Off.lit 0) ∧ 
 (IntKind.wrap IntKind.u64 (Int.tmod (↑(List.length (ints (X20.B x5))) : Int) (8 : Int)) = (↑(Int.toNat (IntKind.wrap IntKind.u64 (Int.tmod (↑(List.length (ints (X20.B x5))) : Int) (8 : Int)))) : Int)) ∧ 
 (x12 = x12) ∧ 
 (relLe x5.rel x5.rel) ∧ 
 (x3 = x3) ∧ 
 (x5.w = x5.w ∧ ints (X20.B x5) = ints (nats (ints (X20.B x5)))) ∧ 
 (∀ x13 : (Unit), (List.length (nats (ints (X20.B x5))) < Int.toNat (IntKind.wrap IntKind.u64 (Int.tmod (↑(List.length (ints (X20.B x5))) : Int) (8 : Int)))) → 
 (x12 = x12) ∧ 
 (x8 = x8) ∧ (inI64 ((↑(List.length (ints (bitsOf x.big (nats (ints x.bs))))) : Int) - (↑(List.length (ints (X20.B x5))) : Int))) ∧ 
 (x5.gx = x5.gx ∧ List.length x5.gl = List.length x5.gl) ∧ 
 ((∃ x14 : (Unit), (bad20 x) ∧ 
 False /- "match: values of two makes" -/) ∨
 (∃ x14 : (Y20), (ps20 x x14) ∧ 
 (x5.gx = x14.gv ∧ x5.gl = x14.gl) ∧ 
 ((x5.i : Int) = wrong x14.st (List.length x14.gl)) ∧ 
 ((↑(List.length (ints (bitsOf x.big (nats (ints x.bs))))) : Int) - (↑(List.length (ints (X20.B x5))) : Int) = (↑((8 : Nat) * List.length x.bs - x14.left) : Int)) ∧ 
 (true = true) ∧ (x.m = x.m) ∧ (relLe x14.rel x5.rel) ∧ 
 (True)))) ∧
 (∀ x13 : (Value), (Int.toNat (IntKind.wrap IntKind.u64 (Int.tmod (↑(List.length (ints (X20.B x5))) : Int) (8 : Int))) ≤ List.length (nats (ints (X20.B x5)))) → 
 (x12 = x12) ∧ 
 (x8 = x8) ∧ (x8 = x8) ∧ ∀ x14 : (Nat), (x5.gx = x5.gx ∧ List.length x5.gl = List.length x5.gl) ∧ 
 (Value.slice (some (Addr.mk x14 0 none)) 1 1 = Value.slice (some (Addr.mk x14 0 none)) 1 1 ∧ (1 : Nat) = List.length [Pt.mk x6.kind (↑(numL (List.take (Int.toNat (IntKind.wrap IntKind.u64 (Int.tmod (↑(List.length (ints (X20.B x5))) : Int) (8 : Int)))) (nats (ints (X20.B x5))))) : Int) x7.n (Sl.mk none 0 0)]) ∧ 
 (room (List.length x5.gl + List.length [Pt.mk x6.kind (↑(numL (List.take (Int.toNat (IntKind.wrap IntKind.u64 (Int.tmod (↑(List.length (ints (X20.B x5))) : Int) (8 : Int)))) (nats (ints (X20.B x5))))) : Int) x7.n (Sl.mk none 0 0)]) 48) ∧ 
 ∀ x15 : (Value), (inI64 ((x5.i : Int) + (1 : Int))) ∧ 
 ∃ x16 : (X20), (ph20 x x16 ∧ List.length x.l - x16.i < List.length x.l - x5.i) ∧ 
 (x15 = x16.gx ∧ List.length x5.gl + List.length [Pt.mk x6.kind (↑(numL (List.take (Int.toNat (IntKind.wrap IntKind.u64 (Int.tmod (↑(List.length (ints (X20.B x5))) : Int) (8 : Int)))) (nats (ints (X20.B x5))))) : Int) x7.n (Sl.mk none 0 0)] = List.length x16.gl) ∧ 
 ((x5.i : Int) + (1 : Int) = (x16.i : Int)) ∧ 
 (x.m = x.m) ∧ (relLe x16.rel (relAdd x5.rel 36 (Value.slice (some (Addr.mk x14 0 none)) 1 1) [Pt.mk x6.kind (↑(numL (List.take (Int.toNat (IntKind.wrap IntKind.u64 (Int.tmod (↑(List.length (ints (X20.B x5))) : Int) (8 : Int)))) (nats (ints (X20.B x5))))) : Int) x7.n (Sl.mk none 0 0)])) ∧ 
 (x3 = x3) ∧ 
 (x13 = x16.w ∧ ints (List.drop (Int.toNat (IntKind.wrap IntKind.u64 (Int.tmod (↑(List.length (ints (X20.B x5))) : Int) (8 : Int)))) (nats (ints (X20.B x5)))) = ints (X20.B x16)) ∧ 
 (x15 = x16.gx ∧ x5.gl ++ [Pt.mk x6.kind (↑(numL (List.take (Int.toNat (IntKind.wrap IntKind.u64 (Int.tmod (↑(List.length (ints (X20.B x5))) : Int) (8 : Int)))) (nats (ints (X20.B x5))))) : Int) x7.n (Sl.mk none 0 0)] = x16.gl) ∧ 
 (True)))
 (Br (x6.kind == (4 : Int))
 ((x3 = x3) ∧ ((8 : Int) ≠ (0 : Int)) ∧ 
 Br (Int.tmod (↑(List.length (ints (X20.B x5))) : Int) (8 : Int) != (0 : Int))
 (((∃ x12 : (Unit), (bad20 x) ∧ 
 (Value.slice none 0 0 = Value.slice none 0 0) ∧ ((0 : Int) = (0 : Int)) ∧ 
 ((0 : Int) = (0 : Int)) ∧ 
 (false = false) ∧ (x.m = x.m) ∧ (relLe x.rel (relAdd x5.rel 36 x5.gx x5.gl)) ∧ 
 (True)) ∨
 (∃ x12 : (Y20), (ps20 x x12) ∧ 
 (Value.slice none 0 0 = Value.slice none 0 0 ∧ Value.slice none 0 0 = x12.gv ∧ x12.gl = []) ∧ 
 ((0 : Int) = wrong x12.st (List.length x12.gl)) ∧ 
 ((0 : Int) = (↑((8 : Nat) * List.length x.bs - x12.left) : Int)) ∧ 
 (false = true) ∧ 
 (x.m = x.m) ∧ (relLe x12.rel (relAdd x5.rel 36 x5.gx x5.gl)) ∧ 
 (True))))
 ((x3 = x3) ∧ ((8 : Int) ≠ (0 : Int)) ∧ 
 (x8 = x8) ∧ Br (decide (IntKind.wrap IntKind.u64 (IntKind.wrap IntKind.i64 (Int.tdiv (↑(List.length (ints (X20.B x5))) : Int) (8 : Int))) ≥ x7.n))
 ((x3 = x3) ∧ ((8 : Int) ≠ (0 : Int)) ∧ 
 (inI64 ((↑(List.length (ints x.bs)) : Int) - IntKind.wrap IntKind.i64 (Int.tdiv (↑(List.length (ints (X20.B x5))) : Int) (8 : Int)))) ∧ 
 ((0 : Int) ≤ (↑(List.length (ints x.bs)) : Int) - IntKind.wrap IntKind.i64 (Int.tdiv (↑(List.length (ints (X20.B x5))) : Int) (8 : Int)) ∧ (↑(List.length (ints x.bs)) : Int) - IntKind.wrap IntKind.i64 (Int.tdiv (↑(List.length (ints (X20.B x5))) : Int) (8 : Int)) ≤ (↑(List.length (ints x.bs)) : Int) ∧ (↑(List.length (ints x.bs)) : Int) ≤ (↑(List.length (ints x.bs)) : Int)) ∧ 
 (x8 = x8) ∧ ((0 : Int) ≤ (0 : Int) ∧ (0 : Int) ≤ x7.n ∧ x7.n ≤ (↑(List.length (List.drop (Int.toNat ((↑(List.length (ints x.bs)) : Int) - IntKind.wrap IntKind.i64 (Int.tdiv (↑(List.length (ints (X20.B x5))) : Int) (8 : Int)))) (List.take (Int.toNat (↑(List.length (ints x.bs)) : Int)) (ints x.bs)))) : Int)) ∧ 
 ∀ x12 : (Nat), (SV.toV (T := TT) (SV.ro 5 x.vs (ints x.bs)) = SV.toV (T := TT) (SV.ro 5 x.vs (ints x.bs))) ∧ (SV.toV (T := TT) (SV.ro 5 x.vs (ints x.bs)) = SV.toV (T := TT) (SV.ro 5 x.vs (ints x.bs))) ∧ (SV.toV (T := TT) (SV.v (Value.int IntKind.i64 (↑(List.length (ints x.bs)) : Int))) = SV.toV (T := TT) (SV.v (Value.int IntKind.i64 (↑(List.length (ints x.bs)) : Int)))) ∧ (x3 = x3) ∧ (SV.toV (T := TT) (SV.ro 5 x5.w (ints (X20.B x5))) = SV.toV (T := TT) (SV.ro 5 x5.w (ints (X20.B x5)))) ∧ (SV.toV (T := TT) (SV.v (Value.int IntKind.i64 (↑(List.length (ints (X20.B x5))) : Int))) = SV.toV (T := TT) (SV.v (Value.int IntKind.i64 (↑(List.length (ints (X20.B x5))) : Int)))) ∧ ((8 : Int) ≠ (0 : Int)) ∧ 
 (SV.toV (T := TT) (SV.v (Value.int IntKind.i64 (IntKind.wrap IntKind.i64 (Int.tdiv (↑(List.length (ints (X20.B x5))) : Int) (8 : Int))))) = SV.toV (T := TT) (SV.v (Value.int IntKind.i64 (IntKind.wrap IntKind.i64 (Int.tdiv (↑(List.length (ints (X20.B x5))) : Int) (8 : Int)))))) ∧ (inI64 ((↑(List.length (ints x.bs)) : Int) - IntKind.wrap IntKind.i64 (Int.tdiv (↑(List.length (ints (X20.B x5))) : Int) (8 : Int)))) ∧ 
 (SV.toV (T := TT) (SV.v (Value.int IntKind.i64 ((↑(List.length (ints x.bs)) : Int) - IntKind.wrap IntKind.i64 (Int.tdiv (↑(List.length (ints (X20.B x5))) : Int) (8 : Int))))) = SV.toV (T := TT) (SV.v (Value.int IntKind.i64 ((↑(List.length (ints x.bs)) : Int) - IntKind.wrap IntKind.i64 (Int.tdiv (↑(List.length (ints (X20.B x5))) : Int) (8 : Int)))))) ∧ ((0 : Int) ≤ (↑(List.length (ints x.bs)) : Int) - IntKind.wrap IntKind.i64 (Int.tdiv (↑(List.length (ints (X20.B x5))) : Int) (8 : Int)) ∧ (↑(List.length (ints x.bs)) : Int) - IntKind.wrap IntKind.i64 (Int.tdiv (↑(List.length (ints (X20.B x5))) : Int) (8 : Int)) ≤ (↑(List.length (ints x.bs)) : Int) ∧ (↑(List.length (ints x.bs)) : Int) ≤ (↑(List.length (ints x.bs)) : Int)) ∧ 
 (SV.toV (T := TT) (SV.ro 5 (sliceVal x.vs (Int.toNat ((↑(List.length (ints x.bs)) : Int) - IntKind.wrap IntKind.i64 (Int.tdiv (↑(List.length (ints (X20.B x5))) : Int) (8 : Int)))) (Int.toNat (↑(List.length (ints x.bs)) : Int)) 1) (List.drop (Int.toNat ((↑(List.length (ints x.bs)) : Int) - IntKind.wrap IntKind.i64 (Int.tdiv (↑(List.length (ints (X20.B x5))) : Int) (8 : Int)))) (List.take (Int.toNat (↑(List.length (ints x.bs)) : Int)) (ints x.bs)))) = SV.toV (T := TT) (SV.ro 5 (sliceVal x.vs (Int.toNat ((↑(List.length (ints x.bs)) : Int) - IntKind.wrap IntKind.i64 (Int.tdiv (↑(List.length (ints (X20.B x5))) : Int) (8 : Int)))) (Int.toNat (↑(List.length (ints x.bs)) : Int)) 1) (List.drop (Int.toNat ((↑(List.length (ints x.bs)) : Int) - IntKind.wrap IntKind.i64 (Int.tdiv (↑(List.length (ints (X20.B x5))) : Int) (8 : Int)))) (List.take (Int.toNat (↑(List.length (ints x.bs)) : Int)) (ints x.bs))))) ∧ (SV.toV (T := TT) (SV.p 4 x8 (Off.add (Off.lit 0) 2)) = SV.toV (T := TT) (SV.p 4 x8 (Off.lit 2))) ∧ 
 (x8 = x8) ∧ (SV.toV (T := TT) (SV.v (Value.int IntKind.u64 x7.n)) = SV.toV (T := TT) (SV.v (Value.int IntKind.u64 x7.n))) ∧ ((0 : Int) ≤ (0 : Int) ∧ (0 : Int) ≤ x7.n ∧ x7.n ≤ (↑(List.length (List.drop (Int.toNat ((↑(List.length (ints x.bs)) : Int) - IntKind.wrap IntKind.i64 (Int.tdiv (↑(List.length (ints (X20.B x5))) : Int) (8 : Int)))) (List.take (Int.toNat (↑(List.length (ints x.bs)) : Int)) (ints x.bs)))) : Int)) ∧ 
 (SV.toV (T := TT) (SV.ro 5 (sliceVal (sliceVal x.vs (Int.toNat ((↑(List.length (ints x.bs)) : Int) - IntKind.wrap IntKind.i64 (Int.tdiv (↑(List.length (ints (X20.B x5))) : Int) (8 : Int)))) (Int.toNat (↑(List.length (ints x.bs)) : Int)) 1) 0 (Int.toNat x7.n) 1) (List.drop 0 (List.take (Int.toNat x7.n) (List.drop (Int.toNat ((↑(List.length (ints x.bs)) : Int) - IntKind.wrap IntKind.i64 (Int.tdiv (↑(List.length (ints (X20.B x5))) : Int) (8 : Int)))) (List.take (Int.toNat (↑(List.length (ints x.bs)) : Int)) (ints x.bs)))))) = SV.toV (T := TT) (SV.ro 5 (sliceVal (sliceVal x.vs (Int.toNat ((↑(List.length (ints x.bs)) : Int) - IntKind.wrap IntKind.i64 (Int.tdiv (↑(List.length (ints (X20.B x5))) : Int) (8 : Int)))) (Int.toNat (↑(List.length (ints x.bs)) : Int)) 1) 0 (Int.toNat x7.n) 1) (List.drop 0 (List.take (Int.toNat x7.n) (List.drop (Int.toNat ((↑(List.length (ints x.bs)) : Int) - IntKind.wrap IntKind.i64 (Int.tdiv (↑(List.length (ints (X20.B x5))) : Int) (8 : Int)))) (List.take (Int.toNat (↑(List.length (ints x.bs)) : Int)) (ints x.bs))))))) ∧ (Value.slice (some (Addr.mk x12 0 none)) 0 0 = Value.slice (some (Addr.mk x12 0 none)) 0 0 ∧ (0 : Nat) = (0 : Nat)) ∧ 
 (room ((0 : Nat) + List.length (List.drop 0 (List.take (Int.toNat x7.n) (List.drop (Int.toNat ((↑(List.length (ints x.bs)) : Int) - IntKind.wrap IntKind.i64 (Int.tdiv (↑(List.length (ints (X20.B x5))) : Int) (8 : Int)))) (List.take (Int.toNat (↑(List.length (ints x.bs)) : Int)) (ints x.bs)))))) 1) ∧ 
 ∀ x13 : (Value), (x8 = x8) ∧ (x3 = x3) ∧ (x8 = x8) ∧ ((0 : Int) ≤ IntKind.wrap IntKind.u64 ((8 : Int) * x7.n) ∧ IntKind.wrap IntKind.u64 ((8 : Int) * x7.n) ≤ (↑(List.length (ints (X20.B x5))) : Int) ∧ (↑(List.length (ints (X20.B x5))) : Int) ≤ (↑(List.length (ints (X20.B x5))) : Int)) ∧ 
 (x3 = x3) ∧ Br (!decide (IntKind.wrap IntKind.u64 (IntKind.wrap IntKind.i64 (Int.tdiv (↑(List.length (ints (X20.B x5))) : Int) (8 : Int))) ≥ x7.n))
 ((inI64 ((↑(List.length (ints (bitsOf x.big (nats (ints x.bs))))) : Int) - (↑(List.length (ints (X20.B x5))) : Int))) ∧ 
 (x5.gx = x5.gx ∧ List.length x5.gl = List.length x5.gl) ∧ 
 ((∃ x14 : (Unit), (bad20 x) ∧ 
 False /- "match: values of two makes" -/) ∨
 (∃ x14 : (Y20), (ps20 x x14) ∧ 
 (x5.gx = x14.gv ∧ x5.gl = x14.gl) ∧ 
 ((x5.i : Int) = wrong x14.st (List.length x14.gl)) ∧ 
 ((↑(List.length (ints (bitsOf x.big (nats (ints x.bs))))) : Int) - (↑(List.length (ints (X20.B x5))) : Int) = (↑((8 : Nat) * List.length x.bs - x14.left) : Int)) ∧ 
 (true = true) ∧ (x.m = x.m) ∧ (relLe x14.rel (relAdd (noteS (SV.segs (SV.ro 5 (sliceVal x5.w (Int.toNat (IntKind.wrap IntKind.u64 ((8 : Int) * x7.n))) (Int.toNat (↑(List.length (ints (X20.B x5))) : Int)) 1) (List.drop (Int.toNat (IntKind.wrap IntKind.u64 ((8 : Int) * x7.n))) (List.take (Int.toNat (↑(List.length (ints (X20.B x5))) : Int)) (ints (X20.B x5)))))) x5.rel) 5 x13 ([] ++ List.drop 0 (List.take (Int.toNat x7.n) (List.drop (Int.toNat ((↑(List.length (ints x.bs)) : Int) - IntKind.wrap IntKind.i64 (Int.tdiv (↑(List.length (ints (X20.B x5))) : Int) (8 : Int)))) (List.take (Int.toNat (↑(List.length (ints x.bs)) : Int)) (ints x.bs))))))) ∧ 
 (True))))
 ((x8 = x8) ∧ ∀ x14 : (Option Addr), ∀ x15 : (Nat), (x13 = Value.slice x14 ((0 : Nat) + List.length (List.drop 0 (List.take (Int.toNat x7.n) (List.drop (Int.toNat ((↑(List.length (ints x.bs)) : Int) - IntKind.wrap IntKind.i64 (Int.tdiv (↑(List.length (ints (X20.B x5))) : Int) (8 : Int)))) (List.take (Int.toNat (↑(List.length (ints x.bs)) : Int)) (ints x.bs)))))) x15) → 
 ∀ x16 : (Nat), (x5.gx = x5.gx ∧ List.length x5.gl = List.length x5.gl) ∧ 
 (Value.slice (some (Addr.mk x16 0 none)) 1 1 = Value.slice (some (Addr.mk x16 0 none)) 1 1 ∧ (1 : Nat) = List.length [Pt.mk x6.kind (0 : Int) x7.n (Sl.mk x14 ((0 : Nat) + List.length (List.drop 0 (List.take (Int.toNat x7.n) (List.drop (Int.toNat ((↑(List.length (ints x.bs)) : Int) - IntKind.wrap IntKind.i64 (Int.tdiv (↑(List.length (ints (X20.B x5))) : Int) (8 : Int)))) (List.take (Int.toNat (↑(List.length (ints x.bs)) : Int)) (ints x.bs)))))) x15)]) ∧ 
 (room (List.length x5.gl + List.length [Pt.mk x6.kind (0 : Int) x7.n (Sl.mk x14 ((0 : Nat) + List.length (List.drop 0 (List.take (Int.toNat x7.n) (List.drop (Int.toNat ((↑(List.length (ints x.bs)) : Int) - IntKind.wrap IntKind.i64 (Int.tdiv (↑(List.length (ints (X20.B x5))) : Int) (8 : Int)))) (List.take (Int.toNat (↑(List.length (ints x.bs)) : Int)) (ints x.bs)))))) x15)]) 48) ∧ 
 ∀ x17 : (Value), (inI64 ((x5.i : Int) + (1 : Int))) ∧ 
 ∃ x18 : (X20), (ph20 x x18 ∧ List.length x.l - x18.i < List.length x.l - x5.i) ∧ 
 (x17 = x18.gx ∧ List.length x5.gl + List.length [Pt.mk x6.kind (0 : Int) x7.n (Sl.mk x14 ((0 : Nat) + List.length (List.drop 0 (List.take (Int.toNat x7.n) (List.drop (Int.toNat ((↑(List.length (ints x.bs)) : Int) - IntKind.wrap IntKind.i64 (Int.tdiv (↑(List.length (ints (X20.B x5))) : Int) (8 : Int)))) (List.take (Int.toNat (↑(List.length (ints x.bs)) : Int)) (ints x.bs)))))) x15)] = List.length x18.gl) ∧ 
 ((x5.i : Int) + (1 : Int) = (x18.i : Int)) ∧ 
 (x.m = x.m) ∧ (relLe x18.rel (relAdd (relAdd (noteS (SV.segs (SV.ro 5 (sliceVal x5.w (Int.toNat (IntKind.wrap IntKind.u64 ((8 : Int) * x7.n))) (Int.toNat (↑(List.length (ints (X20.B x5))) : Int)) 1) (List.drop (Int.toNat (IntKind.wrap IntKind.u64 ((8 : Int) * x7.n))) (List.take (Int.toNat (↑(List.length (ints (X20.B x5))) : Int)) (ints (X20.B x5)))))) x5.rel) 5 x13 ([] ++ List.drop 0 (List.take (Int.toNat x7.n) (List.drop (Int.toNat ((↑(List.length (ints x.bs)) : Int) - IntKind.wrap IntKind.i64 (Int.tdiv (↑(List.length (ints (X20.B x5))) : Int) (8 : Int)))) (List.take (Int.toNat (↑(List.length (ints x.bs)) : Int)) (ints x.bs)))))) 36 (Value.slice (some (Addr.mk x16 0 none)) 1 1) [Pt.mk x6.kind (0 : Int) x7.n (Sl.mk x14 ((0 : Nat) + List.length (List.drop 0 (List.take (Int.toNat x7.n) (List.drop (Int.toNat ((↑(List.length (ints x.bs)) : Int) - IntKind.wrap IntKind.i64 (Int.tdiv (↑(List.length (ints (X20.B x5))) : Int) (8 : Int)))) (List.take (Int.toNat (↑(List.length (ints x.bs)) : Int)) (ints x.bs)))))) x15)])) ∧ 
 (x3 = x3) ∧ (sliceVal x5.w (Int.toNat (IntKind.wrap IntKind.u64 ((8 : Int) * x7.n))) (Int.toNat (↑(List.length (ints (X20.B x5))) : Int)) 1 = x18.w ∧ List.drop (Int.toNat (IntKind.wrap IntKind.u64 ((8 : Int) * x7.n))) (List.take (Int.toNat (↑(List.length (ints (X20.B x5))) : Int)) (ints (X20.B x5))) = ints (X20.B x18)) ∧ 
 (x17 = x18.gx ∧ x5.gl ++ [Pt.mk x6.kind (0 : Int) x7.n (Sl.mk x14 ((0 : Nat) + List.length (List.drop 0 (List.take (Int.toNat x7.n) (List.drop (Int.toNat ((↑(List.length (ints x.bs)) : Int) - IntKind.wrap IntKind.i64 (Int.tdiv (↑(List.length (ints (X20.B x5))) : Int) (8 : Int)))) (List.take (Int.toNat (↑(List.length (ints x.bs)) : Int)) (ints x.bs)))))) x15)] = x18.gl) ∧ 
 (True)))
 (Br (!decide (IntKind.wrap IntKind.u64 (IntKind.wrap IntKind.i64 (Int.tdiv (↑(List.length (ints (X20.B x5))) : Int) (8 : Int))) ≥ x7.n))
 ((inI64 ((↑(List.length (ints (bitsOf x.big (nats (ints x.bs))))) : Int) - (↑(List.length (ints (X20.B x5))) : Int))) ∧ 
 (x5.gx = x5.gx ∧ List.length x5.gl = List.length x5.gl) ∧ 
 ((∃ x12 : (Unit), (bad20 x) ∧ 
 False /- "match: values of two makes" -/) ∨
 (∃ x12 : (Y20), (ps20 x x12) ∧ 
 (x5.gx = x12.gv ∧ x5.gl = x12.gl) ∧ 
 ((x5.i : Int) = wrong x12.st (List.length x12.gl)) ∧ 
 ((↑(List.length (ints (bitsOf x.big (nats (ints x.bs))))) : Int) - (↑(List.length (ints (X20.B x5))) : Int) = (↑((8 : Nat) * List.length x.bs - x12.left) : Int)) ∧ 
 (true = true) ∧ (x.m = x.m) ∧ (relLe x12.rel x5.rel) ∧ 
 (True))))
 ((x8 = x8) ∧ ∀ x12 : (Nat), (x5.gx = x5.gx ∧ List.length x5.gl = List.length x5.gl) ∧ 
 (Value.slice (some (Addr.mk x12 0 none)) 1 1 = Value.slice (some (Addr.mk x12 0 none)) 1 1 ∧ (1 : Nat) = List.length [Pt.mk x6.kind (0 : Int) x7.n (Sl.mk none 0 0)]) ∧ 
 (room (List.length x5.gl + List.length [Pt.mk x6.kind (0 : Int) x7.n (Sl.mk none 0 0)]) 48) ∧ 
 ∀ x13 : (Value), (inI64 ((x5.i : Int) + (1 : Int))) ∧ 
 ∃ x14 : (X20), (ph20 x x14 ∧ List.length x.l - x14.i < List.length x.l - x5.i) ∧ 
 (x13 = x14.gx ∧ List.length x5.gl + List.length [Pt.mk x6.kind (0 : Int) x7.n (Sl.mk none 0 0)] = List.length x14.gl) ∧ 
 ((x5.i : Int) + (1 : Int) = (x14.i : Int)) ∧ 
 (x.m = x.m) ∧ (relLe x14.rel (relAdd x5.rel 36 (Value.slice (some (Addr.mk x12 0 none)) 1 1) [Pt.mk x6.kind (0 : Int) x7.n (Sl.mk none 0 0)])) ∧ 
 (x3 = x3) ∧ (x5.w = x14.w ∧ ints (X20.B x5) = ints (X20.B x14)) ∧ 
 (x13 = x14.gx ∧ x5.gl ++ [Pt.mk x6.kind (0 : Int) x7.n (Sl.mk none 0 0)] = x14.gl) ∧ 
 (True)))))
 (((∃ x12 : (Unit), (bad20 x) ∧ 
 (Value.slice none 0 0 = Value.slice none 0 0) ∧ ((0 : Int) = (0 : Int)) ∧ 
 ((0 : Int) = (0 : Int)) ∧ 
 (false = false) ∧ (x.m = x.m) ∧ (relLe x.rel (relAdd x5.rel 36 x5.gx x5.gl)) ∧ 
 (True)) ∨
 (∃ x12 : (Y20), (ps20 x x12) ∧ 
 (Value.slice none 0 0 = Value.slice none 0 0 ∧ Value.slice none 0 0 = x12.gv ∧ x12.gl = []) ∧ 
 ((0 : Int) = wrong x12.st (List.length x12.gl)) ∧ 
 ((0 : Int) = (↑((8 : Nat) * List.length x.bs - x12.left) : Int)) ∧ 
 (false = true) ∧ 
 (x.m = x.m) ∧ (relLe x12.rel (relAdd x5.rel 36 x5.gx x5.gl)) ∧ 
 (True))))))))))
 ((x3 = x3) ∧ (inI64 ((↑(List.length (ints (bitsOf x.big (nats (ints x.bs))))) : Int) - (↑(List.length (ints (X20.B x5))) : Int))) ∧ 
 (SV.toV (T := TT) (SV.v (Value.int IntKind.i64 (↑(List.length (ints (bitsOf x.big (nats (ints x.bs))))) : Int))) = SV.toV (T := TT) (SV.v (Value.int IntKind.i64 (↑(List.length (ints (bitsOf x.big (nats (ints x.bs))))) : Int)))) ∧ (x3 = x3) ∧ (SV.toV (T := TT) (SV.ro 5 x5.w (ints (X20.B x5))) = SV.toV (T := TT) (SV.ro 5 x5.w (ints (X20.B x5)))) ∧ (SV.toV (T := TT) (SV.v (Value.int IntKind.i64 (↑(List.length (ints (X20.B x5))) : Int))) = SV.toV (T := TT) (SV.v (Value.int IntKind.i64 (↑(List.length (ints (X20.B x5))) : Int)))) ∧ (inI64 ((↑(List.length (ints (bitsOf x.big (nats (ints x.bs))))) : Int) - (↑(List.length (ints (X20.B x5))) : Int))) ∧ 
 (SV.toV (T := TT) (SV.v (Value.int IntKind.i64 ((↑(List.length (ints (bitsOf x.big (nats (ints x.bs))))) : Int) - (↑(List.length (ints (X20.B x5))) : Int)))) = SV.toV (T := TT) (SV.v (Value.int IntKind.i64 ((↑(List.length (ints (bitsOf x.big (nats (ints x.bs))))) : Int) - (↑(List.length (ints (X20.B x5))) : Int))))) ∧ (x5.gx = x5.gx ∧ List.length x5.gl = List.length x5.gl) ∧ 
 ((∃ x6 : (Unit), (bad20 x) ∧ 
 False /- "match: values of two makes" -/) ∨
 (∃ x6 : (Y20), (ps20 x x6) ∧ 
 (x5.gx = x6.gv ∧ x5.gl = x6.gl) ∧ 
 ((-1 : Int) = wrong x6.st (List.length x6.gl)) ∧ 
 ((↑(List.length (ints (bitsOf x.big (nats (ints x.bs))))) : Int) - (↑(List.length (ints (X20.B x5))) : Int) = (↑((8 : Nat) * List.length x.bs - x6.left) : Int)) ∧ 
 (true = true) ∧ (x.m = x.m) ∧ (relLe x6.rel x5.rel) ∧ 
 (True))))
noncomputable def law_c20 (G : Gl) (x : XR) : VCT := fnx (CC G) (IN G b20 NA) (a20 x) Tryz.f20 (c20.args x) (c20.H x) (outK true 2 (c20.ret x)) (c20.pan x)
theorem eq_c20 (G : Gl) (x : XR) : cond_c20 G x = (law_c20 G x).den := by kernel_rfl
theorem stop20 {x : XR} {y : X20} (hy : ph20 x y) {p : Pt} (hp : x.l[y.i]? = some p) (hpb : pb x.l y.i = true → p.kind = 4) (hs : stepM x.lens x.extra x.bs y.B p = .stop) {rel : Rel TT} (hr : relLe y.rel rel) :
    ∃ z : Y20, ps20 x z ∧ (y.gx = z.gv ∧ y.gl = z.gl) ∧ (y.i : Int) = wrong z.st z.gl.length ∧ (((8 * x.bs.length : Nat) : Int) - (y.B.length : Int) = ((8 * x.bs.length - z.left : Nat) : Int)) ∧ relLe z.rel rel := by
  refine ⟨⟨y.gx, y.gl, rel, y.its, true, y.B.length⟩, ph20_stop hy hp hpb hs hr, ⟨rfl, rfl⟩, ?_, ?_, relLe.refl _⟩
  · simp [wrong, hy.len]
  · have := hy.all; dsimp only; omega
theorem next20 {x : XR} {y : X20} (hy : ph20 x y) {p : Pt} (hp : x.l[y.i]? = some p) (hpb : pb x.l y.i = true → p.kind = 4) {it : RIt} {n : Nat} (hs : stepM x.lens x.extra x.bs y.B p = .got it n)
    {rel R : Rel TT} {q : Pt} (hr : relLe y.rel rel) (hq : itOK rel it q) (hR : relLe rel R) (gx w : Value) {B : List Nat} (hB : B = y.B.drop n) :
    ∃ z : X20, (ph20 x z ∧ x.l.length - z.i < x.l.length - y.i) ∧ (gx = z.gx ∧ y.gl.length + [q].length = z.gl.length) ∧ (y.i : Int) + 1 = (z.i : Int) ∧ relLe z.rel R ∧ (w = z.w ∧ ints B = ints z.B) ∧ gx = z.gx ∧ y.gl ++ [q] = z.gl := by
  subst hB
  refine ⟨_, ⟨ph20_next hy hp hpb hs (gx := gx) (w := w) hr hq, ?_⟩, ⟨rfl, by simp⟩, rfl, hR, ⟨rfl, rfl⟩, rfl, rfl⟩
  have := (List.getElem?_eq_some_iff.1 hp).1
  dsimp only; omega
theorem itOK_nil {rel : Rel TT} {k : Int} {v : Nat} {kk vv n : Int} (h1 : kk = k) (h2 : vv = (v : Int)) : itOK rel ⟨k, v, []⟩ (Pt.mk kk vv n (Sl.mk none 0 0)) := ⟨h1, h2, .inr ⟨rfl, rfl⟩⟩
theorem ok_c20 (G : Gl) (x : XR) (hx : xrOK x) : cond_c20 G x := by
  unfold cond_c20
  obtain ⟨hg, he1, he2, hb, hbl, hli, hn⟩ := hx
  have e3 : ∀ l : List Nat, nats (ints l) = l := nats_ints
  have e4 : ∀ l : List Nat, lensOf (canonL l) = l := lensOf_canon
  simp only [br_d, br_i, br_n, rel_self, true_and, and_true, inRange, inI64, Int.toNat_natCast, ints_len, rgL_len, e3, e4, bitsOf_len]
  refine fun _ => ⟨⟨hb, by omega⟩, fun w0 _ b0 => ⟨⟨0, .slice none 0 0, [], x.rel, [], bitsOf x.big x.bs, w0⟩, ?_, ⟨rfl, rfl⟩, rfl, noteS_le _ _, ⟨rfl, rfl⟩, ⟨rfl, rfl⟩, fun y hy => ⟨fun hi => ⟨by omega, by omega, by omega, fun p hp => ?_⟩, fun hi => ?_⟩⟩⟩
  · exact ⟨Nat.zero_le _, relLe.refl _, trivial, rfl, bitsOf_lt _ _, by dsimp only; rw [bitsOf_len]; exact Nat.le_refl _, by simp [pref, pb]; rcases readM x.lens x.extra x.bs x.l (bitsOf x.big x.bs) false with _ | ⟨a, b, c⟩ <;> simp⟩
  · simp only [hp, Option.some.injEq, forall_eq']
    have hB := hy.bit
    have hBl := hy.all
    have hgl := hy.len
    have hl60 := hli.1
    have hi64 : (-9223372036854775808 ≤ ((8 * x.bs.length : Nat) : Int) - (y.B.length : Int) ∧ ((8 * x.bs.length : Nat) : Int) - (y.B.length : Int) < 9223372036854775808) := by omega
    have hpi := hli.2 p (List.mem_of_getElem? hp)
    have hpn := hn p (List.mem_of_getElem? hp)
    have t8 : Int.tmod (y.B.length : Int) 8 = ((y.B.length % 8 : Nat) : Int) := by rw [Int.tmod_eq_emod_of_nonneg (by omega)]; omega
    have u8 : Int.tdiv (y.B.length : Int) 8 = ((y.B.length / 8 : Nat) : Int) := by rw [Int.tdiv_eq_ediv_of_nonneg (by omega)]; omega
    have e8 : IntKind.u64.wrap ((y.B.length % 8 : Nat) : Int) = ((y.B.length % 8 : Nat) : Int) := by rw [wr64]; omega
    have d8 : IntKind.i64.wrap ((y.B.length / 8 : Nat) : Int) = ((y.B.length / 8 : Nat) : Int) := by rw [wrI (by omega) (by omega)]
    have d9 : IntKind.u64.wrap ((y.B.length / 8 : Nat) : Int) = ((y.B.length / 8 : Nat) : Int) := by rw [wr64]; omega
    have e9 : IntKind.u64.wrap (x.extra.length : Int) = (x.extra.length : Int) := by rw [wr64]; omega
    simp only [t8, u8, e8, d8, d9, e9, Int.toNat_natCast, eq_self, true_and]
    refine ⟨by omega, by omega, by omega, fun bx => ⟨by omega, by omega, by omega, rfl, by omega, by omega, by omega, rfl, ?_, fun _ hpb => ?_⟩⟩
    · refine br_mk (fun h1 => ⟨fun h2 => ⟨by omega, by omega, by omega, by omega, fun q hq => ⟨fun h3 => .inl ⟨(), ?_, hy.rel.trans (relLe.add _ _ _ _)⟩, fun h3 => ⟨(), ?_⟩⟩⟩, fun h2 => ⟨(), ?_⟩⟩) (fun h1 => ⟨(), ?_⟩)
      · refine ph20_behind hy hp ?_ (by simpa using h1)
        obtain ⟨j, hj⟩ : ∃ j, y.i = j + 1 := ⟨y.i - 1, by omega⟩
        rw [hj] at hq ⊢
        rw [show ((j + 1 : Nat) : Int) - 1 = (j : Int) by omega, Int.toNat_natCast] at hq
        rw [pb_next hq, h3]; rfl
      · intro h4
        obtain ⟨j, hj⟩ : ∃ j, y.i = j + 1 := ⟨y.i - 1, by omega⟩
        rw [hj] at hq h4
        rw [show ((j + 1 : Nat) : Int) - 1 = (j : Int) by omega, Int.toNat_natCast] at hq
        rw [pb_next hq] at h4
        exact absurd (by simpa using h4) h3
      · intro h4
        rw [show y.i = 0 by omega] at h4
        cases h4
      · intro h4
        simpa using h1
    · have room1 : ∀ q : Pt, room (y.gl.length + [q].length) 48 := fun q => by simp only [room, List.length_singleton]; omega
      refine ⟨fun hk => fun _ => ⟨⟨hB, by omega, by omega⟩, by omega, fun _ hlt => ⟨hi64, .inr (stop20 hy hp hpb ?_ (relLe.refl _))⟩, fun w1 hle b1 => ⟨rfl, room1 _, fun gx => ⟨by omega, next20 hy hp hpb (it := ⟨0, numL (y.B.take p.n.toNat), []⟩) (n := p.n.toNat) ?_ (relLe.refl _) (itOK_nil hk rfl) (relLe.add _ _ _ _) _ _ rfl⟩⟩⟩, fun hk0 => ⟨fun hk => fun _ => ⟨⟨hB, by omega, hg⟩, fun _ hno => ⟨hi64, .inr (stop20 hy hp hpb ?_ (relLe.refl _))⟩, fun w1 hso b1 => ⟨rfl, room1 _, fun gx => ⟨by omega, next20 hy hp hpb (it := ⟨1, cd x.lens (numL y.B), []⟩) (n := cl x.lens (numL y.B)) ?_ (relLe.refl _) (itOK_nil hk rfl) (relLe.add _ _ _ _) _ _ rfl⟩⟩⟩, fun hk1 => ⟨fun hk => fun _ => ⟨⟨hB, by omega, hg⟩, fun _ hno => ⟨hi64, .inr (stop20 hy hp hpb ?_ (relLe.refl _))⟩, fun w1 hso => ⟨fun hge => .inl ⟨(), ph20_bad hy hp hpb ?_, hy.rel.trans (relLe.add _ _ _ _)⟩, fun hlt => ⟨by omega, by omega, fun r hr => ?_⟩⟩⟩, fun hk2 => ⟨fun hk => ⟨by decide, fun _ => ⟨⟨hB, by omega, by omega⟩, fun _ hlt => by omega, fun w1 hle b1 => ⟨rfl, room1 _, fun gx => ⟨by omega, next20 hy hp hpb (it := ⟨3, numL (y.B.take (y.B.length % 8)), []⟩) (n := y.B.length % 8) ?_ (relLe.refl _) (itOK_nil hk rfl) (relLe.add _ _ _ _) _ _ rfl⟩⟩⟩⟩, fun hk3 => ⟨fun hk => ⟨by decide, ?_⟩, fun hk4 => by omega⟩⟩⟩⟩⟩
      · unfold stepM; rw [if_pos hk, if_pos hlt]
      · unfold stepM; rw [if_pos hk, if_neg (by omega)]
      · unfold stepM; rw [if_neg (by omega), if_pos hk, hno]
      · unfold stepM; rw [if_neg (by omega), if_pos hk, hso]; rfl
      · unfold stepM; rw [if_neg (by omega), if_neg (by omega), if_pos hk, hno]
      · unfold stepM; rw [if_neg (by omega), if_neg (by omega), if_pos hk, hso]; dsimp only; rw [if_pos (by omega)]
      · obtain ⟨n, hne, rfl⟩ := rgL_sum hr
        have hn20 := he2 n (List.mem_of_getElem? hne)
        have hs1 := sum2_le (x.extra.take (cd x.lens (numL y.B))) fun z hz => he2 z (List.mem_of_mem_take hz)
        have hs2 : (x.extra.take (cd x.lens (numL y.B))).length * 2 ^ 20 ≤ 30 * 2 ^ 20 := Nat.mul_le_mul_right _ (by rw [List.length_take]; omega)
        have hex : x.extra.getD (cd x.lens (numL y.B)) 0 = n := by rw [List.getD_eq_getElem?_getD, hne]; rfl
        have hba : ((rgL 0 x.extra).getD (cd x.lens (numL y.B)) ⟨0, 0⟩).base.toNat = sum2 (x.extra.take (cd x.lens (numL y.B))) := by rw [List.getD_eq_getElem?_getD, hr]; simp
        have hlen : (List.drop (cl x.lens (numL y.B)) y.B).length = y.B.length - cl x.lens (numL y.B) := List.length_drop
        have hdB : ∀ b ∈ List.drop (cl x.lens (numL y.B)) y.B, b < 2 := fun b hb => hB b (List.mem_of_mem_drop hb)
        have hnl := numL_lt (B := List.take n (List.drop (cl x.lens (numL y.B)) y.B)) fun b hb => hdB b (List.mem_of_mem_take hb)
        have hnl2 : (2 : Nat) ^ (List.take n (List.drop (cl x.lens (numL y.B)) y.B)).length ≤ 2 ^ 20 := Nat.pow_le_pow_right (by decide) (by rw [List.length_take]; omega)
        have hw1 : IntKind.u64.wrap (n : Int) = (n : Int) := by rw [wr64]; omega
        have hw2 : IntKind.u64.wrap ((0 + sum2 (x.extra.take (cd x.lens (numL y.B))) : Nat) : Int) = (sum2 (x.extra.take (cd x.lens (numL y.B))) : Int) := by rw [wr64]; omega
        dsimp only
        simp only [hw1, hw2, Int.toNat_natCast, hlen, true_and]
        refine fun b1 _ => ⟨⟨hdB, by omega, by omega⟩, fun _ h1 => ⟨hi64, .inr (stop20 hy hp hpb ?_ (relLe.refl _))⟩, fun w2 h1 b2 => ⟨rfl, room1 _, fun gx => ⟨by omega, next20 hy hp hpb (it := ⟨2, sum2 (x.extra.take (cd x.lens (numL y.B))) + numL (List.take n (List.drop (cl x.lens (numL y.B)) y.B)), []⟩) (n := cl x.lens (numL y.B) + n) ?_ (relLe.refl _) (itOK_nil hk ?_) (relLe.add _ _ _ _) _ _ ?_⟩⟩⟩
        · unfold stepM; rw [if_neg (by omega), if_neg (by omega), if_pos hk, hso]; dsimp only; rw [if_neg (by omega), hex]; exact if_pos h1
        · unfold stepM; rw [if_neg (by omega), if_neg (by omega), if_pos hk, hso]; dsimp only; rw [if_neg (by omega), hex, if_neg (by unfold cl at h1; omega), hba]; rfl
        · rw [wr64]; omega
        · rw [List.drop_drop]
      · unfold stepM; rw [if_neg (by omega), if_neg (by omega), if_neg (by omega), if_pos hk]
      · have e10 : IntKind.u64.wrap (8 * p.n) = ((8 * p.n.toNat : Nat) : Int) := by rw [wr64]; omega
        have e11 : ((x.bs.length : Int) - ((y.B.length / 8 : Nat) : Int)).toNat = x.bs.length - y.B.length / 8 := by omega
        have e12 : ∀ q : Nat, List.drop q (List.take x.bs.length (ints x.bs)) = ints (x.bs.drop q) := fun q => by rw [← ints_drop x.bs q, ints_len]
        have e13 : ∀ q : Nat, List.drop 0 (List.take p.n.toNat (ints (x.bs.drop q))) = ints ((x.bs.drop q).take p.n.toNat) := fun q => by simp [ints, List.map_take]
        have e14 : ∀ q : Nat, List.drop q (List.take y.B.length (ints y.B)) = ints (y.B.drop q) := fun q => by rw [← ints_drop y.B q, ints_len]
        simp only [e10, e11, e12, e13, e14, ints_len, Int.toNat_natCast, List.length_drop, List.length_take]
        refine br_mk (fun h1 => .inl ⟨(), ph20_bad hy hp hpb ?_, hy.rel.trans (relLe.add _ _ _ _)⟩) (fun h1 => ?_)
        · unfold stepM; rw [if_neg (by omega), if_neg (by omega), if_neg (by omega), if_neg (by omega), if_pos hk, if_pos (by simp at h1; omega)]
        · have h1 : y.B.length % 8 = 0 := by simp at h1; omega
          have hstop : ¬ ((y.B.length / 8 : Nat) : Int) ≥ p.n → stepM x.lens x.extra x.bs y.B p = .stop := by
            intro h2
            unfold stepM; rw [if_neg (by omega), if_neg (by omega), if_neg (by omega), if_neg (by omega), if_pos hk, if_neg (by omega), if_pos (by omega)]
          refine ⟨by decide, fun h2 => ⟨by decide, by omega, by omega, by omega, fun b1 => ⟨by decide, by omega, by omega, rfl, by omega, ?_, fun sv => ⟨by omega, fun _ A c hsv b2 => ⟨rfl, room1 _, fun gx => ⟨by omega, ?_⟩⟩, fun h3 => absurd h2 h3⟩⟩⟩, fun h2 => ⟨fun h3 => absurd h3 h2, fun _ => ⟨hi64, .inr (stop20 hy hp hpb (hstop h2) (relLe.refl _))⟩⟩⟩
          · simp only [room]; omega
          · subst hsv
            refine next20 hy hp hpb (it := ⟨4, 0, (x.bs.drop (x.bs.length - y.B.length / 8)).take p.n.toNat⟩) (n := 8 * p.n.toNat) ?_ ((noteS_le _ _).trans (relLe.add _ _ _ _)) ?_ (relLe.add _ _ _ _) _ _ rfl
            · unfold stepM; rw [if_neg (by omega), if_neg (by omega), if_neg (by omega), if_neg (by omega), if_pos hk, if_neg (by omega), if_neg (by omega)]
            · refine ⟨hk, rfl, .inl (.inr ⟨rfl, 0, _, Nat.zero_le _, Nat.le_refl _, ?_, ?_⟩)⟩
              · have hl : ([] ++ ints (List.take p.n.toNat (List.drop (x.bs.length - y.B.length / 8) x.bs))).length = 0 + min p.n.toNat (x.bs.length - (x.bs.length - y.B.length / 8)) := by
                  rw [List.nil_append, ints_len, List.length_take, List.length_drop]; omega
                refine Eq.trans ?_ (congrArg (fun n => sliceVal (Value.slice A (0 + min p.n.toNat (x.bs.length - (x.bs.length - y.B.length / 8))) c) 0 n (TT.enc 5).sz) hl.symm)
                exact (sliceVal_all A _ c _).symm
              · exact (List.take_length (l := ints (List.take p.n.toNat (List.drop (x.bs.length - y.B.length / 8) x.bs)))).symm
  · have hBl := hy.all
    refine ⟨by omega, by omega, .inr ⟨⟨y.gx, y.gl, y.rel, y.its, false, y.B.length⟩, ph20_end hy (by have := hy.i; omega), ⟨rfl, rfl⟩, rfl, ?_, relLe.refl _⟩⟩
    dsimp only; omega
theorem b20_ok (G : Gl) : ∀ f pt, b20 f = some pt → SpecOK (CC G) f pt := by
  intro f pt h
  unfold b20 at h
  split at h
  · cases h; exact loc_ok (s48 G) _
  · cases h; exact loc_ok (s49 G) _
  · cases h; exact loc_ok (s50 G) _
  · cases h
theorem s20 (G : Gl) : SpecOK (CC G) 20 c20.pt := spec G (b20_ok G) (fn := Tryz.f20) rfl NA c20 (fun x => a20 x) fun x h => Met.of (eq_c20 G x) (ok_c20 G x h)
end Pc
