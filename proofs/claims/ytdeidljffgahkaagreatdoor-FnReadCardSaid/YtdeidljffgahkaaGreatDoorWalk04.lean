/-
  The sources do what their contracts say.
-/
import Derived.Test.YtdeidljffgahkaaGreatDoorWalk03
set_option linter.unusedVariables false
set_option maxRecDepth 100000
open Go Go.Vg Go.Proofs
namespace Pc
def cond_c217 (G : Gl) (x : RB) : Prop :=
 (x.bb = x.bb) ∧ (x.sb = x.sb) ∧ (x.sb = x.sb) ∧ (inI64 ((x.i : Int) + (0 : Int))) ∧ 
 (x.sb = x.sb) ∧ (x.bb = x.bb) ∧ (inI64 ((x.i : Int) + (0 : Int) - (x.pos : Int))) ∧ 
 Br (decide ((x.i : Int) + (0 : Int) - (x.pos : Int) ≥ (0 : Int)))
 ((x.bb = x.bb) ∧ Br (decide ((x.i : Int) + (0 : Int) - (x.pos : Int) < (x.bn : Int)))
 ((x.bb = x.bb) ∧ ((0 : Int) ≤ (x.i : Int) + (0 : Int) - (x.pos : Int) ∧ (x.i : Int) + (0 : Int) - (x.pos : Int) ≤ (x.bn : Int) ∧ (x.bn : Int) ≤ (↑(capVal x.bv) : Int)) ∧ 
 (x.bb = x.bb) ∧ (x.bb = x.bb) ∧ ∃ x1 : (Value × Nat), (x1.2 = x.bn - (x.i - x.pos) ∧ vw x.bb x.arr x.bs x1.1 x1.2 x.i) ∧ 
 (x.m = x.m) ∧ 
 (relLe x.rel x.rel) ∧ 
 (x.bb = x.bb) ∧ 
 (x.sb = x.sb ∧ Off.lit 0 = Off.lit 0) ∧ 
 ((x.i : Int) + (0 : Int) = (x.i : Int)) ∧ 
 (sliceVal x.bv (Int.toNat ((x.i : Int) + (0 : Int) - (x.pos : Int))) (Int.toNat (x.bn : Int)) 1 = x1.1 ∧ Int.toNat (x.bn : Int) - Int.toNat ((x.i : Int) + (0 : Int) - (x.pos : Int)) = x1.2) ∧ 
 ((512 : Nat) = (512 : Nat) ∧ x.arr = x.arr) ∧ 
 (x.sb = x.sb) ∧ 
 (x.vs = x.vs ∧ ints x.bs = ints x.bs) ∧ 
 ((x.i : Int) + (0 : Int) = (x.i : Int)) ∧ 
 ((-1 : Int) = (-1 : Int)) ∧ 
 (True))
 ((x.bb = x.bb) ∧ (x.bb = x.bb) ∧ ∃ x1 : (Value × Nat), (x1.2 = x.bn - (x.i - x.pos) ∧ vw x.bb x.arr x.bs x1.1 x1.2 x.i) ∧ 
 (x.m = x.m) ∧ 
 (relLe x.rel x.rel) ∧ 
 (x.bb = x.bb) ∧ 
 (x.sb = x.sb ∧ Off.lit 0 = Off.lit 0) ∧ 
 ((x.i : Int) + (0 : Int) = (x.i : Int)) ∧ 
 (Value.slice none 0 0 = Value.slice none 0 0 ∧ Value.slice none 0 0 = x1.1 ∧ x1.2 = (0 : Nat)) ∧ 
 ((512 : Nat) = (512 : Nat) ∧ x.arr = x.arr) ∧ 
 (x.sb = x.sb) ∧ 
 (x.vs = x.vs ∧ ints x.bs = ints x.bs) ∧ 
 ((x.i : Int) + (0 : Int) = (x.i : Int)) ∧ 
 ((-1 : Int) = (-1 : Int)) ∧ 
 (True)))
 ((x.bb = x.bb) ∧ (x.bb = x.bb) ∧ ∃ x1 : (Value × Nat), (x1.2 = x.bn - (x.i - x.pos) ∧ vw x.bb x.arr x.bs x1.1 x1.2 x.i) ∧ 
 (x.m = x.m) ∧ 
 (relLe x.rel x.rel) ∧ 
 (x.bb = x.bb) ∧ 
 (x.sb = x.sb ∧ Off.lit 0 = Off.lit 0) ∧ 
 ((x.i : Int) + (0 : Int) = (x.i : Int)) ∧ 
 (Value.slice none 0 0 = Value.slice none 0 0 ∧ Value.slice none 0 0 = x1.1 ∧ x1.2 = (0 : Nat)) ∧ 
 ((512 : Nat) = (512 : Nat) ∧ x.arr = x.arr) ∧ 
 (x.sb = x.sb) ∧ 
 (x.vs = x.vs ∧ ints x.bs = ints x.bs) ∧ 
 ((x.i : Int) + (0 : Int) = (x.i : Int)) ∧ 
 ((-1 : Int) = (-1 : Int)) ∧ 
 (True))
noncomputable def law_c217 (G : Gl) (x : RB) : VCT := fnx (CH G 2) (INH G 2 no NA) noAnn Tryz.f217 (c217.args x) (c217.H x) (outK true 4 (c217.ret x)) (c217.pan x)
theorem eq_c217 (G : Gl) (x : RB) : cond_c217 G x = (law_c217 G x).den := by kernel_rfl
def cond_c212 (G : Gl) (x : RB) : Prop :=
 ∀ x1 : (Nat → Option Obj), (rbOK (RB.mk x1 x.rel x.bb x.sb (Int.toNat (x.pos : Int)) x.bv x.bn x.arr x.vs (nats (ints x.bs)) (Int.toNat (x.i : Int)) x.prev)) ∧ 
 (x.bb = x.bb ∧ Off.lit 0 = Off.lit 0) ∧ 
 (x1 = x1) ∧ 
 (relLe x.rel x.rel) ∧ 
 (x.bb = x.bb) ∧ 
 (x.sb = x.sb ∧ Off.lit 0 = Off.lit 0) ∧ 
 ((x.pos : Int) = (↑(Int.toNat (x.pos : Int)) : Int)) ∧ 
 (x.bv = x.bv ∧ x.bn = x.bn) ∧ 
 ((512 : Nat) = (512 : Nat) ∧ x.arr = x.arr) ∧ 
 (x.sb = x.sb) ∧ 
 (x.vs = x.vs ∧ ints x.bs = ints (nats (ints x.bs))) ∧ 
 ((x.i : Int) = (↑(Int.toNat (x.i : Int)) : Int)) ∧ 
 (x.prev = x.prev) ∧ 
 ∀ x2 : (Value × Nat), (x2.2 = x.bn - (Int.toNat (x.i : Int) - Int.toNat (x.pos : Int)) ∧ vw x.bb x.arr (nats (ints x.bs)) x2.1 x2.2 (Int.toNat (x.i : Int))) → 
 (x1 = x1) ∧ 
 (x.bb = x.bb) ∧ 
 (x.bb = x.bb) ∧ 
 (x.sb = x.sb) ∧ (x.sb = x.sb) ∧ Br (decide ((↑(Int.toNat (x.i : Int)) : Int) ≥ (↑(List.length (ints (nats (ints x.bs)))) : Int)))
 ((SV.toV (T := TT) (SV.p 2 x.bb (Off.lit 0)) = SV.toV (T := TT) (SV.p 2 x.bb (Off.lit 0))) ∧ (SV.toV (T := TT) (SV.p 2 x.bb (Off.lit 0)) = SV.toV (T := TT) (SV.p 2 x.bb (Off.lit 0))) ∧ (SV.toV (T := TT) (SV.p 2 x.bb (Off.add (Off.lit 0) 2)) = SV.toV (T := TT) (SV.p 2 x.bb (Off.lit 2))) ∧ 
 (x.bb = x.bb) ∧ 
 (SV.toV (T := TT) (SV.w x2.1 x2.2) = SV.toV (T := TT) (SV.w x2.1 x2.2)) ∧ (SV.toV (T := TT) (SV.v (Value.int IntKind.i64 (x2.2 : Int))) = SV.toV (T := TT) (SV.v (Value.int IntKind.i64 (x2.2 : Int)))) ∧ (x.bb = x.bb) ∧ 
 (x.sb = x.sb) ∧ (x.sb = x.sb) ∧ Br (decide ((↑(Int.toNat (x.i : Int)) : Int) ≥ (↑(List.length (ints (nats (ints x.bs)))) : Int)))
 (∃ x3 : (Value × Nat), (x3.2 = x.bn - (x.i - x.pos) ∧ vw x.bb x.arr x.bs x3.1 x3.2 x.i) ∧ 
 ((0 : Int) = (x3.2 : Int)) ∧ 
 (x.m = x.m) ∧ 
 (relLe x.rel x.rel) ∧ 
 (x.bb = x.bb) ∧ 
 (x.sb = x.sb ∧ Off.lit 0 = Off.lit 0) ∧ 
 ((↑(Int.toNat (x.i : Int)) : Int) = (x.i : Int)) ∧ 
 (x2.1 = x3.1 ∧ x2.2 = x3.2) ∧ 
 ((512 : Nat) = (512 : Nat) ∧ x.arr = x.arr) ∧ 
 (x.sb = x.sb) ∧ 
 (x.vs = x.vs ∧ ints (nats (ints x.bs)) = ints x.bs) ∧ 
 ((↑(Int.toNat (x.i : Int)) : Int) = (x.i : Int)) ∧ 
 ((-1 : Int) = (-1 : Int)) ∧ 
 (True))
 ((x.sb = x.sb) ∧ (x.sb = x.sb) ∧ (inI64 ((↑(List.length (ints (nats (ints x.bs)))) : Int) - (↑(Int.toNat (x.i : Int)) : Int))) ∧ 
 ∃ x3 : (Value × Nat), (x3.2 = x.bn - (x.i - x.pos) ∧ vw x.bb x.arr x.bs x3.1 x3.2 x.i) ∧ 
 ((↑(List.length (ints (nats (ints x.bs)))) : Int) - (↑(Int.toNat (x.i : Int)) : Int) = (x3.2 : Int)) ∧ 
 (x.m = x.m) ∧ 
 (relLe x.rel x.rel) ∧ 
 (x.bb = x.bb) ∧ 
 (x.sb = x.sb ∧ Off.lit 0 = Off.lit 0) ∧ 
 ((↑(Int.toNat (x.i : Int)) : Int) = (x.i : Int)) ∧ 
 (x2.1 = x3.1 ∧ x2.2 = x3.2) ∧ 
 ((512 : Nat) = (512 : Nat) ∧ x.arr = x.arr) ∧ 
 (x.sb = x.sb) ∧ 
 (x.vs = x.vs ∧ ints (nats (ints x.bs)) = ints x.bs) ∧ 
 ((↑(Int.toNat (x.i : Int)) : Int) = (x.i : Int)) ∧ 
 ((-1 : Int) = (-1 : Int)) ∧ 
 (True)))
 ((x.sb = x.sb) ∧ (x.sb = x.sb) ∧ (inI64 ((↑(List.length (ints (nats (ints x.bs)))) : Int) - (↑(Int.toNat (x.i : Int)) : Int))) ∧ 
 (SV.toV (T := TT) (SV.p 2 x.bb (Off.lit 0)) = SV.toV (T := TT) (SV.p 2 x.bb (Off.lit 0))) ∧ (SV.toV (T := TT) (SV.p 2 x.bb (Off.lit 0)) = SV.toV (T := TT) (SV.p 2 x.bb (Off.lit 0))) ∧ (SV.toV (T := TT) (SV.p 2 x.bb (Off.add (Off.lit 0) 2)) = SV.toV (T := TT) (SV.p 2 x.bb (Off.lit 2))) ∧ 
 (x.bb = x.bb) ∧ 
 (SV.toV (T := TT) (SV.w x2.1 x2.2) = SV.toV (T := TT) (SV.w x2.1 x2.2)) ∧ (SV.toV (T := TT) (SV.v (Value.int IntKind.i64 (x2.2 : Int))) = SV.toV (T := TT) (SV.v (Value.int IntKind.i64 (x2.2 : Int)))) ∧ Br (decide ((↑(List.length (ints (nats (ints x.bs)))) : Int) - (↑(Int.toNat (x.i : Int)) : Int) > (x2.2 : Int)))
 ((x.bb = x.bb) ∧ 
 ∃ x3 : (Value × Nat), (x3.2 = x.bn - (x.i - x.pos) ∧ vw x.bb x.arr x.bs x3.1 x3.2 x.i) ∧ 
 ((x2.2 : Int) = (x3.2 : Int)) ∧ 
 (x.m = x.m) ∧ 
 (relLe x.rel x.rel) ∧ 
 (x.bb = x.bb) ∧ 
 (x.sb = x.sb ∧ Off.lit 0 = Off.lit 0) ∧ 
 ((↑(Int.toNat (x.i : Int)) : Int) = (x.i : Int)) ∧ 
 (x2.1 = x3.1 ∧ x2.2 = x3.2) ∧ 
 ((512 : Nat) = (512 : Nat) ∧ x.arr = x.arr) ∧ 
 (x.sb = x.sb) ∧ 
 (x.vs = x.vs ∧ ints (nats (ints x.bs)) = ints x.bs) ∧ 
 ((↑(Int.toNat (x.i : Int)) : Int) = (x.i : Int)) ∧ 
 ((-1 : Int) = (-1 : Int)) ∧ 
 (True))
 ((x.bb = x.bb) ∧ 
 (x.sb = x.sb) ∧ (x.sb = x.sb) ∧ Br (decide ((↑(Int.toNat (x.i : Int)) : Int) ≥ (↑(List.length (ints (nats (ints x.bs)))) : Int)))
 (∃ x3 : (Value × Nat), (x3.2 = x.bn - (x.i - x.pos) ∧ vw x.bb x.arr x.bs x3.1 x3.2 x.i) ∧ 
 ((0 : Int) = (x3.2 : Int)) ∧ 
 (x.m = x.m) ∧ 
 (relLe x.rel x.rel) ∧ 
 (x.bb = x.bb) ∧ 
 (x.sb = x.sb ∧ Off.lit 0 = Off.lit 0) ∧ 
 ((↑(Int.toNat (x.i : Int)) : Int) = (x.i : Int)) ∧ 
 (x2.1 = x3.1 ∧ x2.2 = x3.2) ∧ 
 ((512 : Nat) = (512 : Nat) ∧ x.arr = x.arr) ∧ 
 (x.sb = x.sb) ∧ 
 (x.vs = x.vs ∧ ints (nats (ints x.bs)) = ints x.bs) ∧ 
 ((↑(Int.toNat (x.i : Int)) : Int) = (x.i : Int)) ∧ 
 ((-1 : Int) = (-1 : Int)) ∧ 
 (True))
 ((x.sb = x.sb) ∧ (x.sb = x.sb) ∧ (inI64 ((↑(List.length (ints (nats (ints x.bs)))) : Int) - (↑(Int.toNat (x.i : Int)) : Int))) ∧ 
 ∃ x3 : (Value × Nat), (x3.2 = x.bn - (x.i - x.pos) ∧ vw x.bb x.arr x.bs x3.1 x3.2 x.i) ∧ 
 ((↑(List.length (ints (nats (ints x.bs)))) : Int) - (↑(Int.toNat (x.i : Int)) : Int) = (x3.2 : Int)) ∧ 
 (x.m = x.m) ∧ 
 (relLe x.rel x.rel) ∧ 
 (x.bb = x.bb) ∧ 
 (x.sb = x.sb ∧ Off.lit 0 = Off.lit 0) ∧ 
 ((↑(Int.toNat (x.i : Int)) : Int) = (x.i : Int)) ∧ 
 (x2.1 = x3.1 ∧ x2.2 = x3.2) ∧ 
 ((512 : Nat) = (512 : Nat) ∧ x.arr = x.arr) ∧ 
 (x.sb = x.sb) ∧ 
 (x.vs = x.vs ∧ ints (nats (ints x.bs)) = ints x.bs) ∧ 
 ((↑(Int.toNat (x.i : Int)) : Int) = (x.i : Int)) ∧ 
 ((-1 : Int) = (-1 : Int)) ∧ 
 (True))))
noncomputable def law_c212 (G : Gl) (x : RB) : VCT := fnx (CH G 2) (INH G 2 b217 NA) noAnn Tryz.f212 (c212.args x) (c212.H x) (outK true 4 (c212.ret x)) (c212.pan x)
theorem eq_c212 (G : Gl) (x : RB) : cond_c212 G x = (law_c212 G x).den := by kernel_rfl
def cond_c213 (G : Gl) (x : RB) (n : Nat) : Prop :=
 (x.bb = x.bb) ∧ (x.sb = x.sb) ∧ (x.sb = x.sb) ∧ Br (decide ((x.i : Int) ≥ (↑(List.length (ints x.bs)) : Int)))
 (Br (decide ((↑n : Int) > (0 : Int)))
 ((x.bb = x.bb) ∧ (x.sb = x.sb) ∧ (x.sb = x.sb) ∧ Br (decide ((x.i : Int) ≥ (↑(List.length (ints x.bs)) : Int)))
 ((SV.toV (T := TT) (SV.v (errV (Gl.E G))) = SV.toV (T := TT) (SV.v (errV (Gl.E G)))) ∧ (x.bb = x.bb) ∧ (x.sb = x.sb) ∧ (x.sb = x.sb) ∧ (inI64 ((x.i : Int) + (0 : Int))) ∧ 
 (x.sb = x.sb) ∧ ∃ x1 : (Unit), (True) ∧ 
 ((0 : Int) = (↑n : Int)) ∧ 
 (errV (Gl.E G) = Value.nilIface) ∧ 
 (x.m = x.m) ∧ 
 (relLe x.rel x.rel) ∧ 
 (x.bb = x.bb) ∧ 
 (x.sb = x.sb ∧ Off.lit 0 = Off.lit 0) ∧ 
 ((x.pos : Int) = (x.pos : Int)) ∧ 
 (x.bv = x.bv ∧ x.bn = x.bn) ∧ 
 ((512 : Nat) = (512 : Nat) ∧ x.arr = x.arr) ∧ 
 (x.sb = x.sb) ∧ 
 (x.vs = x.vs ∧ ints x.bs = ints x.bs) ∧ 
 ((x.i : Int) + (0 : Int) = (↑(x.i + n) : Int)) ∧ 
 ((-1 : Int) = (-1 : Int)) ∧ 
 (True))
 ((x.sb = x.sb) ∧ (x.sb = x.sb) ∧ (inI64 ((↑(List.length (ints x.bs)) : Int) - (x.i : Int))) ∧ 
 (SV.toV (T := TT) (SV.v (errV (Gl.E G))) = SV.toV (T := TT) (SV.v (errV (Gl.E G)))) ∧ (x.bb = x.bb) ∧ (x.sb = x.sb) ∧ (x.sb = x.sb) ∧ (inI64 ((x.i : Int) + ((↑(List.length (ints x.bs)) : Int) - (x.i : Int)))) ∧ 
 Br (decide ((x.i : Int) + ((↑(List.length (ints x.bs)) : Int) - (x.i : Int)) < (0 : Int)))
 (False /- "build" -/)
 ((x.sb = x.sb) ∧ ∃ x1 : (Unit), (True) ∧ 
 ((↑(List.length (ints x.bs)) : Int) - (x.i : Int) = (↑n : Int)) ∧ 
 (errV (Gl.E G) = Value.nilIface) ∧ 
 (x.m = x.m) ∧ 
 (relLe x.rel x.rel) ∧ 
 (x.bb = x.bb) ∧ 
 (x.sb = x.sb ∧ Off.lit 0 = Off.lit 0) ∧ 
 ((x.pos : Int) = (x.pos : Int)) ∧ 
 (x.bv = x.bv ∧ x.bn = x.bn) ∧ 
 ((512 : Nat) = (512 : Nat) ∧ x.arr = x.arr) ∧ 
 (x.sb = x.sb) ∧ 
 (x.vs = x.vs ∧ ints x.bs = ints x.bs) ∧ 
 ((x.i : Int) + ((↑(List.length (ints x.bs)) : Int) - (x.i : Int)) = (↑(x.i + n) : Int)) ∧ 
 ((-1 : Int) = (-1 : Int)) ∧ 
 (True))))
 ((x.bb = x.bb) ∧ (x.sb = x.sb) ∧ (x.sb = x.sb) ∧ (inI64 ((x.i : Int) + (↑n : Int))) ∧ 
 (x.sb = x.sb) ∧ ∃ x1 : (Unit), (True) ∧ 
 ((↑n : Int) = (↑n : Int)) ∧ (Value.nilIface = Value.nilIface) ∧ (x.m = x.m) ∧ 
 (relLe x.rel x.rel) ∧ 
 (x.bb = x.bb) ∧ 
 (x.sb = x.sb ∧ Off.lit 0 = Off.lit 0) ∧ 
 ((x.pos : Int) = (x.pos : Int)) ∧ 
 (x.bv = x.bv ∧ x.bn = x.bn) ∧ 
 ((512 : Nat) = (512 : Nat) ∧ x.arr = x.arr) ∧ 
 (x.sb = x.sb) ∧ 
 (x.vs = x.vs ∧ ints x.bs = ints x.bs) ∧ 
 ((x.i : Int) + (↑n : Int) = (↑(x.i + n) : Int)) ∧ 
 ((-1 : Int) = (-1 : Int)) ∧ 
 (True)))
 ((x.sb = x.sb) ∧ (x.sb = x.sb) ∧ (inI64 ((↑(List.length (ints x.bs)) : Int) - (x.i : Int))) ∧ 
 Br (decide ((↑n : Int) > (↑(List.length (ints x.bs)) : Int) - (x.i : Int)))
 ((x.bb = x.bb) ∧ (x.sb = x.sb) ∧ (x.sb = x.sb) ∧ Br (decide ((x.i : Int) ≥ (↑(List.length (ints x.bs)) : Int)))
 ((SV.toV (T := TT) (SV.v (errV (Gl.E G))) = SV.toV (T := TT) (SV.v (errV (Gl.E G)))) ∧ (x.bb = x.bb) ∧ (x.sb = x.sb) ∧ (x.sb = x.sb) ∧ (inI64 ((x.i : Int) + (0 : Int))) ∧ 
 (x.sb = x.sb) ∧ ∃ x1 : (Unit), (True) ∧ 
 ((0 : Int) = (↑n : Int)) ∧ 
 (errV (Gl.E G) = Value.nilIface) ∧ 
 (x.m = x.m) ∧ 
 (relLe x.rel x.rel) ∧ 
 (x.bb = x.bb) ∧ 
 (x.sb = x.sb ∧ Off.lit 0 = Off.lit 0) ∧ 
 ((x.pos : Int) = (x.pos : Int)) ∧ 
 (x.bv = x.bv ∧ x.bn = x.bn) ∧ 
 ((512 : Nat) = (512 : Nat) ∧ x.arr = x.arr) ∧ 
 (x.sb = x.sb) ∧ 
 (x.vs = x.vs ∧ ints x.bs = ints x.bs) ∧ 
 ((x.i : Int) + (0 : Int) = (↑(x.i + n) : Int)) ∧ 
 ((-1 : Int) = (-1 : Int)) ∧ 
 (True))
 ((x.sb = x.sb) ∧ (x.sb = x.sb) ∧ (inI64 ((↑(List.length (ints x.bs)) : Int) - (x.i : Int))) ∧ 
 (SV.toV (T := TT) (SV.v (errV (Gl.E G))) = SV.toV (T := TT) (SV.v (errV (Gl.E G)))) ∧ (x.bb = x.bb) ∧ (x.sb = x.sb) ∧ (x.sb = x.sb) ∧ (inI64 ((x.i : Int) + ((↑(List.length (ints x.bs)) : Int) - (x.i : Int)))) ∧ 
 Br (decide ((x.i : Int) + ((↑(List.length (ints x.bs)) : Int) - (x.i : Int)) < (0 : Int)))
 (False /- "build" -/)
 ((x.sb = x.sb) ∧ ∃ x1 : (Unit), (True) ∧ 
 ((↑(List.length (ints x.bs)) : Int) - (x.i : Int) = (↑n : Int)) ∧ 
 (errV (Gl.E G) = Value.nilIface) ∧ 
 (x.m = x.m) ∧ 
 (relLe x.rel x.rel) ∧ 
 (x.bb = x.bb) ∧ 
 (x.sb = x.sb ∧ Off.lit 0 = Off.lit 0) ∧ 
 ((x.pos : Int) = (x.pos : Int)) ∧ 
 (x.bv = x.bv ∧ x.bn = x.bn) ∧ 
 ((512 : Nat) = (512 : Nat) ∧ x.arr = x.arr) ∧ 
 (x.sb = x.sb) ∧ 
 (x.vs = x.vs ∧ ints x.bs = ints x.bs) ∧ 
 ((x.i : Int) + ((↑(List.length (ints x.bs)) : Int) - (x.i : Int)) = (↑(x.i + n) : Int)) ∧ 
 ((-1 : Int) = (-1 : Int)) ∧ 
 (True))))
 ((x.bb = x.bb) ∧ (x.sb = x.sb) ∧ (x.sb = x.sb) ∧ (inI64 ((x.i : Int) + (↑n : Int))) ∧ 
 (x.sb = x.sb) ∧ ∃ x1 : (Unit), (True) ∧ 
 ((↑n : Int) = (↑n : Int)) ∧ (Value.nilIface = Value.nilIface) ∧ (x.m = x.m) ∧ 
 (relLe x.rel x.rel) ∧ 
 (x.bb = x.bb) ∧ 
 (x.sb = x.sb ∧ Off.lit 0 = Off.lit 0) ∧ 
 ((x.pos : Int) = (x.pos : Int)) ∧ 
 (x.bv = x.bv ∧ x.bn = x.bn) ∧ 
 ((512 : Nat) = (512 : Nat) ∧ x.arr = x.arr) ∧ 
 (x.sb = x.sb) ∧ 
 (x.vs = x.vs ∧ ints x.bs = ints x.bs) ∧ 
 ((x.i : Int) + (↑n : Int) = (↑(x.i + n) : Int)) ∧ 
 ((-1 : Int) = (-1 : Int)) ∧ 
 (True)))
noncomputable def law_c213 (G : Gl) (x : RB) (n : Nat) : VCT := fnx (CH G 2) (INH G 2 no NA) noAnn Tryz.f213 (c213.args (x, n)) (c213.H (x, n)) (outK true 4 (c213.ret (x, n))) (c213.pan (x, n))
theorem eq_c213 (G : Gl) (x : RB) (n : Nat) : cond_c213 G x n = (law_c213 G x n).den := by kernel_rfl
def cond_c214 (G : Gl) (x : RB) (n : Nat) : Prop :=
 Br (decide ((↑n : Int) > (512 : Int)))
 (((∃ x1 : (Y214), (n ≤ List.length x.bs - x.i ∧ pk214 x n n x1) ∧ 
 (Value.slice none 0 0 = Value.slice none 0 0 ∧ Value.slice none 0 0 = Y214.pv x1 ∧ n = (0 : Nat)) ∧ 
 (errV (Gl.S G) = Value.nilIface) ∧ 
 (x.m = x.m) ∧ 
 (relLe x.rel x.rel) ∧ 
 (x.bb = x.bb) ∧ 
 (x.sb = x.sb ∧ Off.lit 0 = Off.lit 0) ∧ 
 ((x.pos : Int) = (x.i : Int)) ∧ 
 (x.bv = Y214.bv x1 ∧ x.bn = Y214.bn x1) ∧ 
 ((512 : Nat) = (512 : Nat) ∧ x.arr = Y214.arr x1) ∧ 
 (x.sb = x.sb) ∧ 
 (x.vs = x.vs ∧ ints x.bs = ints x.bs) ∧ 
 ((x.i : Int) = (x.i : Int)) ∧ 
 (x.prev = (-1 : Int)) ∧ 
 (True)) ∨
 (∃ x1 : (Y214), (List.length x.bs - x.i < n ∧ pk214 x n (List.length x.bs - x.i) x1) ∧ 
 (Value.slice none 0 0 = Value.slice none 0 0 ∧ Value.slice none 0 0 = Y214.pv x1 ∧ List.length x.bs - x.i = (0 : Nat)) ∧ 
 (errV (Gl.S G) = errV (Gl.E G)) ∧ 
 (x.m = x.m) ∧ 
 (relLe x.rel x.rel) ∧ 
 (x.bb = x.bb) ∧ 
 (x.sb = x.sb ∧ Off.lit 0 = Off.lit 0) ∧ 
 ((x.pos : Int) = (x.i : Int)) ∧ 
 (x.bv = Y214.bv x1 ∧ x.bn = Y214.bn x1) ∧ 
 ((512 : Nat) = (512 : Nat) ∧ x.arr = Y214.arr x1) ∧ 
 (x.sb = x.sb) ∧ 
 (x.vs = x.vs ∧ ints x.bs = ints x.bs) ∧ 
 ((x.i : Int) = (x.i : Int)) ∧ 
 (x.prev = (-1 : Int)) ∧ 
 (True))))
 (∀ x1 : (Nat → Option Obj), (rbOK (RB.mk x1 x.rel x.bb x.sb (Int.toNat (x.pos : Int)) x.bv x.bn x.arr x.vs (nats (ints x.bs)) (Int.toNat (x.i : Int)) x.prev)) ∧ 
 (x.bb = x.bb ∧ Off.lit 0 = Off.lit 0) ∧ 
 (x1 = x1) ∧ 
 (relLe x.rel x.rel) ∧ 
 (x.bb = x.bb) ∧ 
 (x.sb = x.sb ∧ Off.lit 0 = Off.lit 0) ∧ 
 ((x.pos : Int) = (↑(Int.toNat (x.pos : Int)) : Int)) ∧ 
 (x.bv = x.bv ∧ x.bn = x.bn) ∧ 
 ((512 : Nat) = (512 : Nat) ∧ x.arr = x.arr) ∧ 
 (x.sb = x.sb) ∧ 
 (x.vs = x.vs ∧ ints x.bs = ints (nats (ints x.bs))) ∧ 
 ((x.i : Int) = (↑(Int.toNat (x.i : Int)) : Int)) ∧ 
 (x.prev = x.prev) ∧ 
 ∀ x2 : (Value × Nat), (x2.2 = x.bn - (Int.toNat (x.i : Int) - Int.toNat (x.pos : Int)) ∧ vw x.bb x.arr (nats (ints x.bs)) x2.1 x2.2 (Int.toNat (x.i : Int))) → 
 (x1 = x1) ∧ 
 (x.bb = x.bb) ∧ 
 Br (decide ((x2.2 : Int) ≥ (↑n : Int)))
 ((x.bb = x.bb) ∧ 
 ((0 : Int) ≤ (0 : Int) ∧ (0 : Int) ≤ (↑n : Int) ∧ (↑n : Int) ≤ (↑(capVal x2.1) : Int)) ∧ 
 ((∃ x3 : (Y214), (n ≤ List.length x.bs - x.i ∧ pk214 x n n x3) ∧ 
 (sliceVal x2.1 0 (Int.toNat (↑n : Int)) 1 = Y214.pv x3 ∧ Int.toNat (↑n : Int) - (0 : Nat) = n) ∧ 
 (Value.nilIface = Value.nilIface) ∧ (x.m = x.m) ∧ 
 (relLe x.rel x.rel) ∧ 
 (x.bb = x.bb) ∧ 
 (x.sb = x.sb ∧ Off.lit 0 = Off.lit 0) ∧ 
 ((↑(Int.toNat (x.i : Int)) : Int) = (x.i : Int)) ∧ 
 (x2.1 = Y214.bv x3 ∧ x2.2 = Y214.bn x3) ∧ 
 ((512 : Nat) = (512 : Nat) ∧ x.arr = Y214.arr x3) ∧ 
 (x.sb = x.sb) ∧ 
 (x.vs = x.vs ∧ ints (nats (ints x.bs)) = ints x.bs) ∧ 
 ((↑(Int.toNat (x.i : Int)) : Int) = (x.i : Int)) ∧ 
 ((-1 : Int) = (-1 : Int)) ∧ 
 (True)) ∨
 (∃ x3 : (Y214), (List.length x.bs - x.i < n ∧ pk214 x n (List.length x.bs - x.i) x3) ∧ 
 (sliceVal x2.1 0 (Int.toNat (↑n : Int)) 1 = Y214.pv x3 ∧ Int.toNat (↑n : Int) - (0 : Nat) = List.length x.bs - x.i) ∧ 
 (Value.nilIface = errV (Gl.E G)) ∧ 
 (x.m = x.m) ∧ 
 (relLe x.rel x.rel) ∧ 
 (x.bb = x.bb) ∧ 
 (x.sb = x.sb ∧ Off.lit 0 = Off.lit 0) ∧ 
 ((↑(Int.toNat (x.i : Int)) : Int) = (x.i : Int)) ∧ 
 (x2.1 = Y214.bv x3 ∧ x2.2 = Y214.bn x3) ∧ 
 ((512 : Nat) = (512 : Nat) ∧ x.arr = Y214.arr x3) ∧ 
 (x.sb = x.sb) ∧ 
 (x.vs = x.vs ∧ ints (nats (ints x.bs)) = ints x.bs) ∧ 
 ((↑(Int.toNat (x.i : Int)) : Int) = (x.i : Int)) ∧ 
 ((-1 : Int) = (-1 : Int)) ∧ 
 (True))))
 ((x.bb = x.bb) ∧ 
 ((0 : Int) ≤ (0 : Int) ∧ (0 : Int) ≤ (512 : Int) ∧ (512 : Int) ≤ (512 : Int) ∧ ((0 : Int) < (512 : Int) ∨ (0 : Int) = (0 : Int))) ∧ 
 (x.bb = x.bb) ∧ 
 (x.sb = x.sb) ∧ Br (decide ((↑(Int.toNat (x.i : Int)) : Int) ≥ (↑(List.length (ints (nats (ints x.bs)))) : Int)))
 (((0 : Int) ≤ (0 : Int) ∧ (0 : Int) ≤ (0 : Int) ∧ (0 : Int) ≤ (512 : Int) ∧ ((0 : Int) < (512 : Int) ∨ (0 : Int) = (0 : Int))) ∧ 
 (x.bb = x.bb) ∧ 
 Br (decide ((0 : Int) < (↑n : Int)))
 (((0 : Int) ≤ (0 : Int) ∧ (0 : Int) ≤ (0 : Int) ∧ (0 : Int) ≤ (512 : Int) ∧ ((0 : Int) < (512 : Int) ∨ (0 : Int) = (0 : Int))) ∧ 
 ((∃ x3 : (Y214), (n ≤ List.length x.bs - x.i ∧ pk214 x n n x3) ∧ 
 (Value.slice (some (Addr.mk x.bb 3 none)) 0 512 = Y214.pv x3 ∧ (0 : Nat) = n) ∧ 
 (errV (Gl.E G) = Value.nilIface) ∧ 
 (x.m = x.m) ∧ 
 (relLe x.rel x.rel) ∧ 
 (x.bb = x.bb) ∧ 
 (x.sb = x.sb ∧ Off.lit 0 = Off.lit 0) ∧ 
 ((↑(Int.toNat (x.i : Int)) : Int) = (x.i : Int)) ∧ 
 (Value.slice (some (Addr.mk x.bb 3 none)) 0 512 = Y214.bv x3 ∧ (0 : Nat) = Y214.bn x3) ∧ 
 ((512 : Nat) = (512 : Nat) ∧ x.arr = Y214.arr x3) ∧ 
 (x.sb = x.sb) ∧ 
 (x.vs = x.vs ∧ ints (nats (ints x.bs)) = ints x.bs) ∧ 
 ((↑(Int.toNat (x.i : Int)) : Int) = (x.i : Int)) ∧ 
 ((-1 : Int) = (-1 : Int)) ∧ 
 (True)) ∨
 (∃ x3 : (Y214), (List.length x.bs - x.i < n ∧ pk214 x n (List.length x.bs - x.i) x3) ∧ 
 (Value.slice (some (Addr.mk x.bb 3 none)) 0 512 = Y214.pv x3 ∧ (0 : Nat) = List.length x.bs - x.i) ∧ 
 (errV (Gl.E G) = errV (Gl.E G)) ∧ (x.m = x.m) ∧ 
 (relLe x.rel x.rel) ∧ 
 (x.bb = x.bb) ∧ 
 (x.sb = x.sb ∧ Off.lit 0 = Off.lit 0) ∧ 
 ((↑(Int.toNat (x.i : Int)) : Int) = (x.i : Int)) ∧ 
 (Value.slice (some (Addr.mk x.bb 3 none)) 0 512 = Y214.bv x3 ∧ (0 : Nat) = Y214.bn x3) ∧ 
 ((512 : Nat) = (512 : Nat) ∧ x.arr = Y214.arr x3) ∧ 
 (x.sb = x.sb) ∧ 
 (x.vs = x.vs ∧ ints (nats (ints x.bs)) = ints x.bs) ∧ 
 ((↑(Int.toNat (x.i : Int)) : Int) = (x.i : Int)) ∧ 
 ((-1 : Int) = (-1 : Int)) ∧ 
 (True))))
 (((0 : Int) ≤ (0 : Int) ∧ (0 : Int) ≤ (↑n : Int) ∧ (↑n : Int) ≤ (512 : Int) ∧ ((0 : Int) < (512 : Int) ∨ (0 : Int) = (0 : Int))) ∧ 
 ((∃ x3 : (Y214), (n ≤ List.length x.bs - x.i ∧ pk214 x n n x3) ∧ 
 (Value.slice (some (Addr.mk x.bb 3 none)) (Int.toNat (↑n : Int) - (0 : Nat)) 512 = Y214.pv x3 ∧ Int.toNat (↑n : Int) - (0 : Nat) = n) ∧ 
 (Value.nilIface = Value.nilIface) ∧ (x.m = x.m) ∧ 
 (relLe x.rel x.rel) ∧ 
 (x.bb = x.bb) ∧ 
 (x.sb = x.sb ∧ Off.lit 0 = Off.lit 0) ∧ 
 ((↑(Int.toNat (x.i : Int)) : Int) = (x.i : Int)) ∧ 
 (Value.slice (some (Addr.mk x.bb 3 none)) 0 512 = Y214.bv x3 ∧ (0 : Nat) = Y214.bn x3) ∧ 
 ((512 : Nat) = (512 : Nat) ∧ x.arr = Y214.arr x3) ∧ 
 (x.sb = x.sb) ∧ 
 (x.vs = x.vs ∧ ints (nats (ints x.bs)) = ints x.bs) ∧ 
 ((↑(Int.toNat (x.i : Int)) : Int) = (x.i : Int)) ∧ 
 ((-1 : Int) = (-1 : Int)) ∧ 
 (True)) ∨
 (∃ x3 : (Y214), (List.length x.bs - x.i < n ∧ pk214 x n (List.length x.bs - x.i) x3) ∧ 
 (Value.slice (some (Addr.mk x.bb 3 none)) (Int.toNat (↑n : Int) - (0 : Nat)) 512 = Y214.pv x3 ∧ Int.toNat (↑n : Int) - (0 : Nat) = List.length x.bs - x.i) ∧ 
 (Value.nilIface = errV (Gl.E G)) ∧ 
 (x.m = x.m) ∧ 
 (relLe x.rel x.rel) ∧ 
 (x.bb = x.bb) ∧ 
 (x.sb = x.sb ∧ Off.lit 0 = Off.lit 0) ∧ 
 ((↑(Int.toNat (x.i : Int)) : Int) = (x.i : Int)) ∧ 
 (Value.slice (some (Addr.mk x.bb 3 none)) 0 512 = Y214.bv x3 ∧ (0 : Nat) = Y214.bn x3) ∧ 
 ((512 : Nat) = (512 : Nat) ∧ x.arr = Y214.arr x3) ∧ 
 (x.sb = x.sb) ∧ 
 (x.vs = x.vs ∧ ints (nats (ints x.bs)) = ints x.bs) ∧ 
 ((↑(Int.toNat (x.i : Int)) : Int) = (x.i : Int)) ∧ 
 ((-1 : Int) = (-1 : Int)) ∧ 
 (True)))))
 ((x.sb = x.sb) ∧ ((0 : Int) ≤ (↑(Int.toNat (x.i : Int)) : Int) ∧ (↑(Int.toNat (x.i : Int)) : Int) ≤ (↑(List.length (ints (nats (ints x.bs)))) : Int) ∧ (↑(List.length (ints (nats (ints x.bs)))) : Int) ≤ (↑(List.length (ints (nats (ints x.bs)))) : Int)) ∧ 
 (x.bb = x.bb ∧ (512 : Nat) ≤ List.length x.arr) ∧ 
 Br (decide ((↑(min (List.length (List.drop (Int.toNat (↑(Int.toNat (x.i : Int)) : Int)) (List.take (Int.toNat (↑(List.length (ints (nats (ints x.bs)))) : Int)) (ints (nats (ints x.bs)))))) 512) : Int) < (512 : Int)))
 (((0 : Int) ≤ (0 : Int) ∧ (0 : Int) ≤ (↑(min (List.length (List.drop (Int.toNat (↑(Int.toNat (x.i : Int)) : Int)) (List.take (Int.toNat (↑(List.length (ints (nats (ints x.bs)))) : Int)) (ints (nats (ints x.bs)))))) 512) : Int) ∧ (↑(min (List.length (List.drop (Int.toNat (↑(Int.toNat (x.i : Int)) : Int)) (List.take (Int.toNat (↑(List.length (ints (nats (ints x.bs)))) : Int)) (ints (nats (ints x.bs)))))) 512) : Int) ≤ (512 : Int) ∧ ((0 : Int) < (512 : Int) ∨ (0 : Int) = (0 : Int))) ∧ 
 (x.bb = x.bb) ∧ 
 Br (decide ((↑(min (List.length (List.drop (Int.toNat (↑(Int.toNat (x.i : Int)) : Int)) (List.take (Int.toNat (↑(List.length (ints (nats (ints x.bs)))) : Int)) (ints (nats (ints x.bs)))))) 512) : Int) < (↑n : Int)))
 (((0 : Int) ≤ (0 : Int) ∧ (0 : Int) ≤ (↑(min (List.length (List.drop (Int.toNat (↑(Int.toNat (x.i : Int)) : Int)) (List.take (Int.toNat (↑(List.length (ints (nats (ints x.bs)))) : Int)) (ints (nats (ints x.bs)))))) 512) : Int) ∧ (↑(min (List.length (List.drop (Int.toNat (↑(Int.toNat (x.i : Int)) : Int)) (List.take (Int.toNat (↑(List.length (ints (nats (ints x.bs)))) : Int)) (ints (nats (ints x.bs)))))) 512) : Int) ≤ (512 : Int) ∧ ((0 : Int) < (512 : Int) ∨ (0 : Int) = (0 : Int))) ∧ 
 ((∃ x3 : (Y214), (n ≤ List.length x.bs - x.i ∧ pk214 x n n x3) ∧ 
 (Value.slice (some (Addr.mk x.bb 3 none)) (Int.toNat (↑(min (List.length (List.drop (Int.toNat (↑(Int.toNat (x.i : Int)) : Int)) (List.take (Int.toNat (↑(List.length (ints (nats (ints x.bs)))) : Int)) (ints (nats (ints x.bs)))))) 512) : Int) - (0 : Nat)) 512 = Y214.pv x3 ∧ Int.toNat (↑(min (List.length (List.drop (Int.toNat (↑(Int.toNat (x.i : Int)) : Int)) (List.take (Int.toNat (↑(List.length (ints (nats (ints x.bs)))) : Int)) (ints (nats (ints x.bs)))))) 512) : Int) - (0 : Nat) = n) ∧ 
 (errV (Gl.E G) = Value.nilIface) ∧ 
 (x.m = x.m) ∧ 
 (relLe x.rel x.rel) ∧ 
 (x.bb = x.bb) ∧ 
 (x.sb = x.sb ∧ Off.lit 0 = Off.lit 0) ∧ 
 ((↑(Int.toNat (x.i : Int)) : Int) = (x.i : Int)) ∧ 
 (Value.slice (some (Addr.mk x.bb 3 none)) (Int.toNat (↑(min (List.length (List.drop (Int.toNat (↑(Int.toNat (x.i : Int)) : Int)) (List.take (Int.toNat (↑(List.length (ints (nats (ints x.bs)))) : Int)) (ints (nats (ints x.bs)))))) 512) : Int) - (0 : Nat)) 512 = Y214.bv x3 ∧ Int.toNat (↑(min (List.length (List.drop (Int.toNat (↑(Int.toNat (x.i : Int)) : Int)) (List.take (Int.toNat (↑(List.length (ints (nats (ints x.bs)))) : Int)) (ints (nats (ints x.bs)))))) 512) : Int) - (0 : Nat) = Y214.bn x3) ∧ 
 ((512 : Nat) = (512 : Nat) ∧ List.take 0 x.arr ++ List.take (min (List.length (List.drop (Int.toNat (↑(Int.toNat (x.i : Int)) : Int)) (List.take (Int.toNat (↑(List.length (ints (nats (ints x.bs)))) : Int)) (ints (nats (ints x.bs)))))) 512) (List.drop (Int.toNat (↑(Int.toNat (x.i : Int)) : Int)) (List.take (Int.toNat (↑(List.length (ints (nats (ints x.bs)))) : Int)) (ints (nats (ints x.bs))))) ++ List.drop ((0 : Nat) + min (List.length (List.drop (Int.toNat (↑(Int.toNat (x.i : Int)) : Int)) (List.take (Int.toNat (↑(List.length (ints (nats (ints x.bs)))) : Int)) (ints (nats (ints x.bs)))))) 512) x.arr = Y214.arr x3) ∧ 
 (x.sb = x.sb) ∧ 
 (x.vs = x.vs ∧ ints (nats (ints x.bs)) = ints x.bs) ∧ 
 ((↑(Int.toNat (x.i : Int)) : Int) = (x.i : Int)) ∧ 
 ((-1 : Int) = (-1 : Int)) ∧ 
 (True)) ∨
 (∃ x3 : (Y214), (List.length x.bs - x.i < n ∧ pk214 x n (List.length x.bs - x.i) x3) ∧ 
 (Value.slice (some (Addr.mk x.bb 3 none)) (Int.toNat (↑(min (List.length (List.drop (Int.toNat (↑(Int.toNat (x.i : Int)) : Int)) (List.take (Int.toNat (↑(List.length (ints (nats (ints x.bs)))) : Int)) (ints (nats (ints x.bs)))))) 512) : Int) - (0 : Nat)) 512 = Y214.pv x3 ∧ Int.toNat (↑(min (List.length (List.drop (Int.toNat (↑(Int.toNat (x.i : Int)) : Int)) (List.take (Int.toNat (↑(List.length (ints (nats (ints x.bs)))) : Int)) (ints (nats (ints x.bs)))))) 512) : Int) - (0 : Nat) = List.length x.bs - x.i) ∧ 
 (errV (Gl.E G) = errV (Gl.E G)) ∧ (x.m = x.m) ∧ 
 (relLe x.rel x.rel) ∧ 
 (x.bb = x.bb) ∧ 
 (x.sb = x.sb ∧ Off.lit 0 = Off.lit 0) ∧ 
 ((↑(Int.toNat (x.i : Int)) : Int) = (x.i : Int)) ∧ 
 (Value.slice (some (Addr.mk x.bb 3 none)) (Int.toNat (↑(min (List.length (List.drop (Int.toNat (↑(Int.toNat (x.i : Int)) : Int)) (List.take (Int.toNat (↑(List.length (ints (nats (ints x.bs)))) : Int)) (ints (nats (ints x.bs)))))) 512) : Int) - (0 : Nat)) 512 = Y214.bv x3 ∧ Int.toNat (↑(min (List.length (List.drop (Int.toNat (↑(Int.toNat (x.i : Int)) : Int)) (List.take (Int.toNat (↑(List.length (ints (nats (ints x.bs)))) : Int)) (ints (nats (ints x.bs)))))) 512) : Int) - (0 : Nat) = Y214.bn x3) ∧ 
 ((512 : Nat) = (512 : Nat) ∧ List.take 0 x.arr ++ List.take (min (List.length (List.drop (Int.toNat (↑(Int.toNat (x.i : Int)) : Int)) (List.take (Int.toNat (↑(List.length (ints (nats (ints x.bs)))) : Int)) (ints (nats (ints x.bs)))))) 512) (List.drop (Int.toNat (↑(Int.toNat (x.i : Int)) : Int)) (List.take (Int.toNat (↑(List.length (ints (nats (ints x.bs)))) : Int)) (ints (nats (ints x.bs))))) ++ List.drop ((0 : Nat) + min (List.length (List.drop (Int.toNat (↑(Int.toNat (x.i : Int)) : Int)) (List.take (Int.toNat (↑(List.length (ints (nats (ints x.bs)))) : Int)) (ints (nats (ints x.bs)))))) 512) x.arr = Y214.arr x3) ∧ 
 (x.sb = x.sb) ∧ 
 (x.vs = x.vs ∧ ints (nats (ints x.bs)) = ints x.bs) ∧ 
 ((↑(Int.toNat (x.i : Int)) : Int) = (x.i : Int)) ∧ 
 ((-1 : Int) = (-1 : Int)) ∧ 
 (True))))
 (((0 : Int) ≤ (0 : Int) ∧ (0 : Int) ≤ (↑n : Int) ∧ (↑n : Int) ≤ (512 : Int) ∧ ((0 : Int) < (512 : Int) ∨ (0 : Int) = (0 : Int))) ∧ 
 ((∃ x3 : (Y214), (n ≤ List.length x.bs - x.i ∧ pk214 x n n x3) ∧ 
 (Value.slice (some (Addr.mk x.bb 3 none)) (Int.toNat (↑n : Int) - (0 : Nat)) 512 = Y214.pv x3 ∧ Int.toNat (↑n : Int) - (0 : Nat) = n) ∧ 
 (Value.nilIface = Value.nilIface) ∧ (x.m = x.m) ∧ 
 (relLe x.rel x.rel) ∧ 
 (x.bb = x.bb) ∧ 
 (x.sb = x.sb ∧ Off.lit 0 = Off.lit 0) ∧ 
 ((↑(Int.toNat (x.i : Int)) : Int) = (x.i : Int)) ∧ 
 (Value.slice (some (Addr.mk x.bb 3 none)) (Int.toNat (↑(min (List.length (List.drop (Int.toNat (↑(Int.toNat (x.i : Int)) : Int)) (List.take (Int.toNat (↑(List.length (ints (nats (ints x.bs)))) : Int)) (ints (nats (ints x.bs)))))) 512) : Int) - (0 : Nat)) 512 = Y214.bv x3 ∧ Int.toNat (↑(min (List.length (List.drop (Int.toNat (↑(Int.toNat (x.i : Int)) : Int)) (List.take (Int.toNat (↑(List.length (ints (nats (ints x.bs)))) : Int)) (ints (nats (ints x.bs)))))) 512) : Int) - (0 : Nat) = Y214.bn x3) ∧ 
 ((512 : Nat) = (512 : Nat) ∧ List.take 0 x.arr ++ List.take (min (List.length (List.drop (Int.toNat (↑(Int.toNat (x.i : Int)) : Int)) (List.take (Int.toNat (↑(List.length (ints (nats (ints x.bs)))) : Int)) (ints (nats (ints x.bs)))))) 512) (List.drop (Int.toNat (↑(Int.toNat (x.i : Int)) : Int)) (List.take (Int.toNat (↑(List.length (ints (nats (ints x.bs)))) : Int)) (ints (nats (ints x.bs))))) ++ List.drop ((0 : Nat) + min (List.length (List.drop (Int.toNat (↑(Int.toNat (x.i : Int)) : Int)) (List.take (Int.toNat (↑(List.length (ints (nats (ints x.bs)))) : Int)) (ints (nats (ints x.bs)))))) 512) x.arr = Y214.arr x3) ∧ 
 (x.sb = x.sb) ∧ 
 (x.vs = x.vs ∧ ints (nats (ints x.bs)) = ints x.bs) ∧ 
 ((↑(Int.toNat (x.i : Int)) : Int) = (x.i : Int)) ∧ 
 ((-1 : Int) = (-1 : Int)) ∧ 
 (True)) ∨
 (∃ x3 : (Y214), (List.length x.bs - x.i < n ∧ pk214 x n (List.length x.bs - x.i) x3) ∧ 
 (Value.slice (some (Addr.mk x.bb 3 none)) (Int.toNat (↑n : Int) - (0 : Nat)) 512 = Y214.pv x3 ∧ Int.toNat (↑n : Int) - (0 : Nat) = List.length x.bs - x.i) ∧ 
 (Value.nilIface = errV (Gl.E G)) ∧ 
 (x.m = x.m) ∧ 
 (relLe x.rel x.rel) ∧ 
 (x.bb = x.bb) ∧ 
 (x.sb = x.sb ∧ Off.lit 0 = Off.lit 0) ∧ 
 ((↑(Int.toNat (x.i : Int)) : Int) = (x.i : Int)) ∧ 
 (Value.slice (some (Addr.mk x.bb 3 none)) (Int.toNat (↑(min (List.length (List.drop (Int.toNat (↑(Int.toNat (x.i : Int)) : Int)) (List.take (Int.toNat (↑(List.length (ints (nats (ints x.bs)))) : Int)) (ints (nats (ints x.bs)))))) 512) : Int) - (0 : Nat)) 512 = Y214.bv x3 ∧ Int.toNat (↑(min (List.length (List.drop (Int.toNat (↑(Int.toNat (x.i : Int)) : Int)) (List.take (Int.toNat (↑(List.length (ints (nats (ints x.bs)))) : Int)) (ints (nats (ints x.bs)))))) 512) : Int) - (0 : Nat) = Y214.bn x3) ∧ 
 ((512 : Nat) = (512 : Nat) ∧ List.take 0 x.arr ++ List.take (min (List.length (List.drop (Int.toNat (↑(Int.toNat (x.i : Int)) : Int)) (List.take (Int.toNat (↑(List.length (ints (nats (ints x.bs)))) : Int)) (ints (nats (ints x.bs)))))) 512) (List.drop (Int.toNat (↑(Int.toNat (x.i : Int)) : Int)) (List.take (Int.toNat (↑(List.length (ints (nats (ints x.bs)))) : Int)) (ints (nats (ints x.bs))))) ++ List.drop ((0 : Nat) + min (List.length (List.drop (Int.toNat (↑(Int.toNat (x.i : Int)) : Int)) (List.take (Int.toNat (↑(List.length (ints (nats (ints x.bs)))) : Int)) (ints (nats (ints x.bs)))))) 512) x.arr = Y214.arr x3) ∧ 
 (x.sb = x.sb) ∧ 
 (x.vs = x.vs ∧ ints (nats (ints x.bs)) = ints x.bs) ∧ 
 ((↑(Int.toNat (x.i : Int)) : Int) = (x.i : Int)) ∧ 
 ((-1 : Int) = (-1 : Int)) ∧ 
 (True)))))
 (((0 : Int) ≤ (0 : Int) ∧ (0 : Int) ≤ (↑(min (List.length (List.drop (Int.toNat (↑(Int.toNat (x.i : Int)) : Int)) (List.take (Int.toNat (↑(List.length (ints (nats (ints x.bs)))) : Int)) (ints (nats (ints x.bs)))))) 512) : Int) ∧ (↑(min (List.length (List.drop (Int.toNat (↑(Int.toNat (x.i : Int)) : Int)) (List.take (Int.toNat (↑(List.length (ints (nats (ints x.bs)))) : Int)) (ints (nats (ints x.bs)))))) 512) : Int) ≤ (512 : Int) ∧ ((0 : Int) < (512 : Int) ∨ (0 : Int) = (0 : Int))) ∧ 
 (x.bb = x.bb) ∧ 
 Br (decide ((↑(min (List.length (List.drop (Int.toNat (↑(Int.toNat (x.i : Int)) : Int)) (List.take (Int.toNat (↑(List.length (ints (nats (ints x.bs)))) : Int)) (ints (nats (ints x.bs)))))) 512) : Int) < (↑n : Int)))
 (((0 : Int) ≤ (0 : Int) ∧ (0 : Int) ≤ (↑(min (List.length (List.drop (Int.toNat (↑(Int.toNat (x.i : Int)) : Int)) (List.take (Int.toNat (↑(List.length (ints (nats (ints x.bs)))) : Int)) (ints (nats (ints x.bs)))))) 512) : Int) ∧ (↑(min (List.length (List.drop (Int.toNat (↑(Int.toNat (x.i : Int)) : Int)) (List.take (Int.toNat (↑(List.length (ints (nats (ints x.bs)))) : Int)) (ints (nats (ints x.bs)))))) 512) : Int) ≤ (512 : Int) ∧ ((0 : Int) < (512 : Int) ∨ (0 : Int) = (0 : Int))) ∧ 
 ((∃ x3 : (Y214), (n ≤ List.length x.bs - x.i ∧ pk214 x n n x3) ∧ 
 (Value.slice (some (Addr.mk x.bb 3 none)) (Int.toNat (↑(min (List.length (List.drop (Int.toNat (↑(Int.toNat (x.i : Int)) : Int)) (List.take (Int.toNat (↑(List.length (ints (nats (ints x.bs)))) : Int)) (ints (nats (ints x.bs)))))) 512) : Int) - (0 : Nat)) 512 = Y214.pv x3 ∧ Int.toNat (↑(min (List.length (List.drop (Int.toNat (↑(Int.toNat (x.i : Int)) : Int)) (List.take (Int.toNat (↑(List.length (ints (nats (ints x.bs)))) : Int)) (ints (nats (ints x.bs)))))) 512) : Int) - (0 : Nat) = n) ∧ 
 (Value.nilIface = Value.nilIface) ∧ (x.m = x.m) ∧ 
 (relLe x.rel x.rel) ∧ 
 (x.bb = x.bb) ∧ 
 (x.sb = x.sb ∧ Off.lit 0 = Off.lit 0) ∧ 
 ((↑(Int.toNat (x.i : Int)) : Int) = (x.i : Int)) ∧ 
 (Value.slice (some (Addr.mk x.bb 3 none)) (Int.toNat (↑(min (List.length (List.drop (Int.toNat (↑(Int.toNat (x.i : Int)) : Int)) (List.take (Int.toNat (↑(List.length (ints (nats (ints x.bs)))) : Int)) (ints (nats (ints x.bs)))))) 512) : Int) - (0 : Nat)) 512 = Y214.bv x3 ∧ Int.toNat (↑(min (List.length (List.drop (Int.toNat (↑(Int.toNat (x.i : Int)) : Int)) (List.take (Int.toNat (↑(List.length (ints (nats (ints x.bs)))) : Int)) (ints (nats (ints x.bs)))))) 512) : Int) - (0 : Nat) = Y214.bn x3) ∧ 
 ((512 : Nat) = (512 : Nat) ∧ List.take 0 x.arr ++ List.take (min (List.length (List.drop (Int.toNat (↑(Int.toNat (x.i : Int)) : Int)) (List.take (Int.toNat (↑(List.length (ints (nats (ints x.bs)))) : Int)) (ints (nats (ints x.bs)))))) 512) (List.drop (Int.toNat (↑(Int.toNat (x.i : Int)) : Int)) (List.take (Int.toNat (↑(List.length (ints (nats (ints x.bs)))) : Int)) (ints (nats (ints x.bs))))) ++ List.drop ((0 : Nat) + min (List.length (List.drop (Int.toNat (↑(Int.toNat (x.i : Int)) : Int)) (List.take (Int.toNat (↑(List.length (ints (nats (ints x.bs)))) : Int)) (ints (nats (ints x.bs)))))) 512) x.arr = Y214.arr x3) ∧ 
 (x.sb = x.sb) ∧ 
 (x.vs = x.vs ∧ ints (nats (ints x.bs)) = ints x.bs) ∧ 
 ((↑(Int.toNat (x.i : Int)) : Int) = (x.i : Int)) ∧ 
 ((-1 : Int) = (-1 : Int)) ∧ 
 (True)) ∨
 (∃ x3 : (Y214), (List.length x.bs - x.i < n ∧ pk214 x n (List.length x.bs - x.i) x3) ∧ 
 (Value.slice (some (Addr.mk x.bb 3 none)) (Int.toNat (↑(min (List.length (List.drop (Int.toNat (↑(Int.toNat (x.i : Int)) : Int)) (List.take (Int.toNat (↑(List.length (ints (nats (ints x.bs)))) : Int)) (ints (nats (ints x.bs)))))) 512) : Int) - (0 : Nat)) 512 = Y214.pv x3 ∧ Int.toNat (↑(min (List.length (List.drop (Int.toNat (↑(Int.toNat (x.i : Int)) : Int)) (List.take (Int.toNat (↑(List.length (ints (nats (ints x.bs)))) : Int)) (ints (nats (ints x.bs)))))) 512) : Int) - (0 : Nat) = List.length x.bs - x.i) ∧ 
 (Value.nilIface = errV (Gl.E G)) ∧ 
 (x.m = x.m) ∧ 
 (relLe x.rel x.rel) ∧ 
 (x.bb = x.bb) ∧ 
 (x.sb = x.sb ∧ Off.lit 0 = Off.lit 0) ∧ 
 ((↑(Int.toNat (x.i : Int)) : Int) = (x.i : Int)) ∧ 
 (Value.slice (some (Addr.mk x.bb 3 none)) (Int.toNat (↑(min (List.length (List.drop (Int.toNat (↑(Int.toNat (x.i : Int)) : Int)) (List.take (Int.toNat (↑(List.length (ints (nats (ints x.bs)))) : Int)) (ints (nats (ints x.bs)))))) 512) : Int) - (0 : Nat)) 512 = Y214.bv x3 ∧ Int.toNat (↑(min (List.length (List.drop (Int.toNat (↑(Int.toNat (x.i : Int)) : Int)) (List.take (Int.toNat (↑(List.length (ints (nats (ints x.bs)))) : Int)) (ints (nats (ints x.bs)))))) 512) : Int) - (0 : Nat) = Y214.bn x3) ∧ 
 ((512 : Nat) = (512 : Nat) ∧ List.take 0 x.arr ++ List.take (min (List.length (List.drop (Int.toNat (↑(Int.toNat (x.i : Int)) : Int)) (List.take (Int.toNat (↑(List.length (ints (nats (ints x.bs)))) : Int)) (ints (nats (ints x.bs)))))) 512) (List.drop (Int.toNat (↑(Int.toNat (x.i : Int)) : Int)) (List.take (Int.toNat (↑(List.length (ints (nats (ints x.bs)))) : Int)) (ints (nats (ints x.bs))))) ++ List.drop ((0 : Nat) + min (List.length (List.drop (Int.toNat (↑(Int.toNat (x.i : Int)) : Int)) (List.take (Int.toNat (↑(List.length (ints (nats (ints x.bs)))) : Int)) (ints (nats (ints x.bs)))))) 512) x.arr = Y214.arr x3) ∧ 
 (x.sb = x.sb) ∧ 
 (x.vs = x.vs ∧ ints (nats (ints x.bs)) = ints x.bs) ∧ 
 ((↑(Int.toNat (x.i : Int)) : Int) = (x.i : Int)) ∧ 
 ((-1 : Int) = (-1 : Int)) ∧ 
 (True))))
 (((0 : Int) ≤ (0 : Int) ∧ (0 : Int) ≤ (↑n : Int) ∧ (↑n : Int) ≤ (512 : Int) ∧ ((0 : Int) < (512 : Int) ∨ (0 : Int) = (0 : Int))) ∧ 
 ((∃ x3 : (Y214), (n ≤ List.length x.bs - x.i ∧ pk214 x n n x3) ∧ 
 (Value.slice (some (Addr.mk x.bb 3 none)) (Int.toNat (↑n : Int) - (0 : Nat)) 512 = Y214.pv x3 ∧ Int.toNat (↑n : Int) - (0 : Nat) = n) ∧ 
 (Value.nilIface = Value.nilIface) ∧ (x.m = x.m) ∧ 
 (relLe x.rel x.rel) ∧ 
 (x.bb = x.bb) ∧ 
 (x.sb = x.sb ∧ Off.lit 0 = Off.lit 0) ∧ 
 ((↑(Int.toNat (x.i : Int)) : Int) = (x.i : Int)) ∧ 
 (Value.slice (some (Addr.mk x.bb 3 none)) (Int.toNat (↑(min (List.length (List.drop (Int.toNat (↑(Int.toNat (x.i : Int)) : Int)) (List.take (Int.toNat (↑(List.length (ints (nats (ints x.bs)))) : Int)) (ints (nats (ints x.bs)))))) 512) : Int) - (0 : Nat)) 512 = Y214.bv x3 ∧ Int.toNat (↑(min (List.length (List.drop (Int.toNat (↑(Int.toNat (x.i : Int)) : Int)) (List.take (Int.toNat (↑(List.length (ints (nats (ints x.bs)))) : Int)) (ints (nats (ints x.bs)))))) 512) : Int) - (0 : Nat) = Y214.bn x3) ∧ 
 ((512 : Nat) = (512 : Nat) ∧ List.take 0 x.arr ++ List.take (min (List.length (List.drop (Int.toNat (↑(Int.toNat (x.i : Int)) : Int)) (List.take (Int.toNat (↑(List.length (ints (nats (ints x.bs)))) : Int)) (ints (nats (ints x.bs)))))) 512) (List.drop (Int.toNat (↑(Int.toNat (x.i : Int)) : Int)) (List.take (Int.toNat (↑(List.length (ints (nats (ints x.bs)))) : Int)) (ints (nats (ints x.bs))))) ++ List.drop ((0 : Nat) + min (List.length (List.drop (Int.toNat (↑(Int.toNat (x.i : Int)) : Int)) (List.take (Int.toNat (↑(List.length (ints (nats (ints x.bs)))) : Int)) (ints (nats (ints x.bs)))))) 512) x.arr = Y214.arr x3) ∧ 
 (x.sb = x.sb) ∧ 
 (x.vs = x.vs ∧ ints (nats (ints x.bs)) = ints x.bs) ∧ 
 ((↑(Int.toNat (x.i : Int)) : Int) = (x.i : Int)) ∧ 
 ((-1 : Int) = (-1 : Int)) ∧ 
 (True)) ∨
 (∃ x3 : (Y214), (List.length x.bs - x.i < n ∧ pk214 x n (List.length x.bs - x.i) x3) ∧ 
 (Value.slice (some (Addr.mk x.bb 3 none)) (Int.toNat (↑n : Int) - (0 : Nat)) 512 = Y214.pv x3 ∧ Int.toNat (↑n : Int) - (0 : Nat) = List.length x.bs - x.i) ∧ 
 (Value.nilIface = errV (Gl.E G)) ∧ 
 (x.m = x.m) ∧ 
 (relLe x.rel x.rel) ∧ 
 (x.bb = x.bb) ∧ 
 (x.sb = x.sb ∧ Off.lit 0 = Off.lit 0) ∧ 
 ((↑(Int.toNat (x.i : Int)) : Int) = (x.i : Int)) ∧ 
 (Value.slice (some (Addr.mk x.bb 3 none)) (Int.toNat (↑(min (List.length (List.drop (Int.toNat (↑(Int.toNat (x.i : Int)) : Int)) (List.take (Int.toNat (↑(List.length (ints (nats (ints x.bs)))) : Int)) (ints (nats (ints x.bs)))))) 512) : Int) - (0 : Nat)) 512 = Y214.bv x3 ∧ Int.toNat (↑(min (List.length (List.drop (Int.toNat (↑(Int.toNat (x.i : Int)) : Int)) (List.take (Int.toNat (↑(List.length (ints (nats (ints x.bs)))) : Int)) (ints (nats (ints x.bs)))))) 512) : Int) - (0 : Nat) = Y214.bn x3) ∧ 
 ((512 : Nat) = (512 : Nat) ∧ List.take 0 x.arr ++ List.take (min (List.length (List.drop (Int.toNat (↑(Int.toNat (x.i : Int)) : Int)) (List.take (Int.toNat (↑(List.length (ints (nats (ints x.bs)))) : Int)) (ints (nats (ints x.bs)))))) 512) (List.drop (Int.toNat (↑(Int.toNat (x.i : Int)) : Int)) (List.take (Int.toNat (↑(List.length (ints (nats (ints x.bs)))) : Int)) (ints (nats (ints x.bs))))) ++ List.drop ((0 : Nat) + min (List.length (List.drop (Int.toNat (↑(Int.toNat (x.i : Int)) : Int)) (List.take (Int.toNat (↑(List.length (ints (nats (ints x.bs)))) : Int)) (ints (nats (ints x.bs)))))) 512) x.arr = Y214.arr x3) ∧ 
 (x.sb = x.sb) ∧ 
 (x.vs = x.vs ∧ ints (nats (ints x.bs)) = ints x.bs) ∧ 
 ((↑(Int.toNat (x.i : Int)) : Int) = (x.i : Int)) ∧ 
 ((-1 : Int) = (-1 : Int)) ∧ 
 (True))))))))
noncomputable def law_c214 (G : Gl) (x : RB) (n : Nat) : VCT := fnx (CH G 2) (INH G 2 b217 NA) noAnn Tryz.f214 ((c214 G).args (x, n)) ((c214 G).H (x, n)) (outK true 4 ((c214 G).ret (x, n))) ((c214 G).pan (x, n))
theorem eq_c214 (G : Gl) (x : RB) (n : Nat) : cond_c214 G x n = (law_c214 G x n).den := by kernel_rfl
theorem ok_c217 (G : Gl) (x : RB) (hx : rbOK x) : cond_c217 G x := by
  unfold cond_c217
  obtain ⟨ha, hp, hi, hl, hv⟩ := hx
  have hc := vw_cap hv
  simp only [br_d, rel_self, true_and, and_true, inI64, Int.toNat_natCast]
  refine ⟨by omega, by omega, fun h1 => ⟨fun h2 => ⟨by omega, ⟨sliceVal x.bv (x.i - x.pos) x.bn 1, x.bn - (x.i - x.pos)⟩, ⟨rfl, vw_at (vw_sub hv (by omega) (Nat.le_refl _)) (by omega)⟩, by omega, ⟨?_, ?_⟩, by omega⟩, fun h2 => ⟨⟨.slice none 0 0, 0⟩, ⟨by dsimp only; omega, vw_nil _ _ _ _⟩, by omega, ⟨rfl, rfl⟩, by omega⟩⟩, fun h1 => by omega⟩
  · congr 1; omega
  · dsimp only; omega
theorem ok_c212 (G : Gl) (x : RB) (hx : rbOK x) : cond_c212 G x := by
  unfold cond_c212
  have hx' := hx
  obtain ⟨ha, hp, hi, hl, hv⟩ := hx
  have e3 : ∀ l : List Nat, nats (ints l) = l := nats_ints
  simp only [br_d, rel_self, true_and, and_true, inI64, Int.toNat_natCast, e3, ints_len]
  refine fun m => ⟨⟨ha, hp, hi, hl, hv⟩, fun y hy => ?_⟩
  have h2 := vw_end hv
  refine ⟨fun h1 => ⟨rfl, fun _ => ⟨y, hy, by omega, rfl, rfl⟩, fun h2 => absurd h1 h2⟩, fun h1 => ⟨by omega, rfl, fun h2 => ⟨y, hy, rfl, rfl, rfl⟩, fun h2 => ⟨fun h3 => absurd h3 h1, fun h3 => ⟨by omega, y, hy, by omega, rfl, rfl⟩⟩⟩⟩
theorem ok_c213 (G : Gl) (x : RB) (n : Nat) (hx : rbOK x) (hn : x.i + n ≤ x.bs.length) : cond_c213 G x n := by
  unfold cond_c213
  obtain ⟨ha, hp, hi, hl, hv⟩ := hx
  simp only [br_d, rel_self, true_and, and_true, inI64, ints_len]
  exact ⟨fun h1 => ⟨fun h2 => by omega, fun h2 => ⟨by omega, (), by omega⟩⟩, fun h1 => ⟨by omega, fun h2 => by omega, fun h2 => ⟨by omega, (), by omega⟩⟩⟩
theorem vw_fill {b : Nat} {bs : List Nat} {rest : List Int} {i k : Nat} (hi : i ≤ bs.length) (hk : k ≤ bs.length - i) (h512 : bs.length ≤ 512) : vw b (ints (bs.drop i) ++ rest) bs (.slice (some ⟨b, 3, none⟩) k 512) k i := by
  refine .inr ⟨0, 512, rfl, by omega, by omega, by omega, ?_⟩
  rw [List.drop_zero, List.take_append_of_le_length (by rw [ints_len, List.length_drop]; exact hk)]
  simp [ints, List.map_take]
theorem ok_c214 (G : Gl) (x : RB) (n : Nat) (hx : rbOK x) (hn : n ≤ 512) : cond_c214 G x n := by
  unfold cond_c214
  obtain ⟨ha, hp, hi, hl, hv⟩ := hx
  have e3 : ∀ l : List Nat, nats (ints l) = l := nats_ints
  have e12 : List.drop x.i (List.take x.bs.length (ints x.bs)) = ints (x.bs.drop x.i) := by rw [← ints_drop x.bs x.i, ints_len]
  have e13 : min (x.bs.length - x.i) 512 = x.bs.length - x.i := by omega
  have e14 : List.take (x.bs.length - x.i) (ints (x.bs.drop x.i)) = ints (x.bs.drop x.i) := List.take_of_length_le (by rw [ints_len, List.length_drop]; exact Nat.le_refl _)
  simp only [br_d, rel_self, true_and, and_true, Int.toNat_natCast, e3, ints_len, e12, List.length_drop, e13, e14, List.take_zero, List.nil_append, Nat.zero_add, Nat.sub_zero]
  refine ⟨fun h => by omega, fun _ m => ⟨⟨ha, hp, hi, hl, hv⟩, fun y hy => ⟨fun h1 => ⟨by have := vw_cap hy.2; omega, .inl ⟨⟨sliceVal y.1 0 n 1, y.1, y.2, x.arr⟩, ⟨?_, ha, vw_sub hy.2 (Nat.zero_le _) (by omega), hy.2, by dsimp only; omega⟩, rfl, ⟨rfl, rfl⟩, rfl⟩⟩, fun h1 => ⟨by simp, fun h2 => ⟨by simp, fun h3 => ⟨by simp, .inr ⟨⟨.slice (some ⟨x.bb, 3, none⟩) 0 512, .slice (some ⟨x.bb, 3, none⟩) 0 512, 0, x.arr⟩, ⟨by omega, ha, ?_, ?_, by dsimp only; omega⟩, ⟨rfl, by omega⟩, ⟨rfl, rfl⟩, rfl⟩⟩, fun h3 => by omega⟩, fun h2 => ⟨by omega, by omega, fun h3 => ⟨by omega, fun h4 => ⟨by omega, .inr ⟨⟨.slice (some ⟨x.bb, 3, none⟩) (x.bs.length - x.i) 512, .slice (some ⟨x.bb, 3, none⟩) (x.bs.length - x.i) 512, x.bs.length - x.i, _⟩, ⟨by omega, ?_, vw_fill hi (Nat.le_refl _) (by omega), vw_fill hi (Nat.le_refl _) (by omega), Nat.le_refl _⟩, rfl, ⟨rfl, rfl⟩, rfl⟩⟩, fun h4 => ⟨by omega, .inl ⟨⟨.slice (some ⟨x.bb, 3, none⟩) n 512, .slice (some ⟨x.bb, 3, none⟩) (x.bs.length - x.i) 512, x.bs.length - x.i, _⟩, ⟨by omega, ?_, vw_fill hi (by omega) (by omega), vw_fill hi (Nat.le_refl _) (by omega), by dsimp only; omega⟩, rfl, ⟨rfl, rfl⟩, rfl⟩⟩⟩, fun h3 => by omega⟩⟩⟩⟩⟩
  · have := vw_end hv; omega
  · have e : x.bs.length - x.i = 0 := by omega
    dsimp only
    rw [e]
    exact .inr ⟨0, 512, rfl, by omega, by omega, by omega, by simp [ints]⟩
  · dsimp only
    exact .inr ⟨0, 512, rfl, by omega, by omega, by omega, by simp [ints]⟩
  · simp [ints_len]; omega
  · simp [ints_len]; omega
theorem s217 (G : Gl) : SpecOK (CC G) 217 c217.pt := specH G 2 (no_ok G) (fn := Tryz.f217) rfl NA c217 (fun _ => noAnn) fun x h => Met.of (eq_c217 G x) (ok_c217 G x h)
theorem b217_ok (G : Gl) : ∀ f pt, b217 f = some pt → SpecOK (CC G) f pt := by
  intro f pt h
  unfold b217 at h
  split at h
  · cases h; exact loc_ok (s217 G) _
  · cases h
theorem s212 (G : Gl) : SpecOK (CC G) 212 c212.pt := specH G 2 (b217_ok G) (fn := Tryz.f212) rfl NA c212 (fun _ => noAnn) fun x h => Met.of (eq_c212 G x) (ok_c212 G x h)
theorem s213 (G : Gl) : SpecOK (CC G) 213 c213.pt := specH G 2 (no_ok G) (fn := Tryz.f213) rfl NA c213 (fun _ => noAnn) fun ⟨x, n⟩ h => Met.of (eq_c213 G x n) (ok_c213 G x n h.1 h.2)
theorem s214 (G : Gl) : SpecOK (CC G) 214 (c214 G).pt := specH G 2 (b217_ok G) (fn := Tryz.f214) rfl NA (c214 G) (fun _ => noAnn) fun ⟨x, n⟩ h => Met.of (eq_c214 G x n) (ok_c214 G x n h.1 h.2)
end Pc
/-
  The reader does what its contracts say (part 1).
-/
set_option linter.unusedVariables false
set_option maxRecDepth 100000
open Go Go.Vg Go.Proofs
namespace Pc
def cond_c164 (G : Gl) (m : Fz) (rel : Rel TT) (n : Nat) : Prop :=
 ((0 : Int) ≤ (1 : Int)) ∧ 
 ((0 : Int) ≤ (1 : Int)) ∧ 
 ((0 : Int) ≤ (2 : Int)) ∧ 
 ((0 : Int) ≤ (2 : Int)) ∧ 
 ((0 : Int) ≤ (4 : Int)) ∧ 
 ((0 : Int) ≤ (4 : Int)) ∧ 
 ∃ x1 : (Unit), (True) ∧ 
 (bitI BinOp.or IntKind.u8 (shrI IntKind.u8 (bitI BinOp.and IntKind.u8 (bitI BinOp.or IntKind.u8 (shrI IntKind.u8 (bitI BinOp.and IntKind.u8 (bitI BinOp.or IntKind.u8 (shrI IntKind.u8 (bitI BinOp.and IntKind.u8 (↑n : Int) (170 : Int)) (1 : Int)) (shlI IntKind.u8 (bitI BinOp.and IntKind.u8 (↑n : Int) (85 : Int)) (1 : Int))) (204 : Int)) (2 : Int)) (shlI IntKind.u8 (bitI BinOp.and IntKind.u8 (bitI BinOp.or IntKind.u8 (shrI IntKind.u8 (bitI BinOp.and IntKind.u8 (↑n : Int) (170 : Int)) (1 : Int)) (shlI IntKind.u8 (bitI BinOp.and IntKind.u8 (↑n : Int) (85 : Int)) (1 : Int))) (51 : Int)) (2 : Int))) (240 : Int)) (4 : Int)) (shlI IntKind.u8 (bitI BinOp.and IntKind.u8 (bitI BinOp.or IntKind.u8 (shrI IntKind.u8 (bitI BinOp.and IntKind.u8 (bitI BinOp.or IntKind.u8 (shrI IntKind.u8 (bitI BinOp.and IntKind.u8 (↑n : Int) (170 : Int)) (1 : Int)) (shlI IntKind.u8 (bitI BinOp.and IntKind.u8 (↑n : Int) (85 : Int)) (1 : Int))) (204 : Int)) (2 : Int)) (shlI IntKind.u8 (bitI BinOp.and IntKind.u8 (bitI BinOp.or IntKind.u8 (shrI IntKind.u8 (bitI BinOp.and IntKind.u8 (↑n : Int) (170 : Int)) (1 : Int)) (shlI IntKind.u8 (bitI BinOp.and IntKind.u8 (↑n : Int) (85 : Int)) (1 : Int))) (51 : Int)) (2 : Int))) (15 : Int)) (4 : Int)) = (↑(numL (byteBits true n)) : Int)) ∧ 
 (m = m) ∧ (relLe rel rel) ∧ 
 (True)
noncomputable def law_c164 (G : Gl) (m : Fz) (rel : Rel TT) (n : Nat) : VCT := fnx (CC G) (IN G no NA) noAnn Tryz.f164 (c164.args (m, rel, n)) (c164.H (m, rel, n)) (outK true 2 (c164.ret (m, rel, n))) (c164.pan (m, rel, n))
theorem eq_c164 (G : Gl) (m : Fz) (rel : Rel TT) (n : Nat) : cond_c164 G m rel n = (law_c164 G m rel n).den := by kernel_rfl
def cond_c80 (G : Gl) (P : Nat) (x : RS) : Prop :=
 (x.rb = x.rb) ∧ (x.rb = x.rb) ∧ (x.rb = x.rb) ∧ (x.rb = x.rb) ∧ (inI64 (IntKind.wrap IntKind.u64 ((x.fed : Int) - (x.num : Int)))) ∧ 
 (inI64 (x.dis + IntKind.wrap IntKind.u64 ((x.fed : Int) - (x.num : Int)))) ∧ 
 (x.rb = x.rb) ∧ (x.rb = x.rb) ∧ (x.rb = x.rb) ∧ (x.rb = x.rb) ∧ (inI64 (x.dis + IntKind.wrap IntKind.u64 ((x.fed : Int) - (x.num : Int)) + (7 : Int))) ∧ 
 ((8 : Int) ≠ (0 : Int)) ∧ 
 (x.rb = x.rb) ∧ ∀ x1 : (Nat → Option Obj), (rbOK (RB.mk x1 x.rel x.bb x.sb (Int.toNat (x.pos : Int)) x.bv x.bn x.arr x.vs (nats (ints x.bs)) (Int.toNat (x.off : Int)) x.prev) ∧ Int.toNat (x.off : Int) + Int.toNat (IntKind.wrap IntKind.i64 (Int.tdiv (x.dis + IntKind.wrap IntKind.u64 ((x.fed : Int) - (x.num : Int)) + (7 : Int)) (8 : Int))) ≤ List.length (nats (ints x.bs))) ∧ 
 (x.bb = x.bb ∧ Off.lit 0 = Off.lit 0) ∧ 
 (IntKind.wrap IntKind.i64 (Int.tdiv (x.dis + IntKind.wrap IntKind.u64 ((x.fed : Int) - (x.num : Int)) + (7 : Int)) (8 : Int)) = (↑(Int.toNat (IntKind.wrap IntKind.i64 (Int.tdiv (x.dis + IntKind.wrap IntKind.u64 ((x.fed : Int) - (x.num : Int)) + (7 : Int)) (8 : Int)))) : Int)) ∧ 
 (x1 = x1) ∧ 
 (relLe x.rel x.rel) ∧ 
 (x.bb = x.bb) ∧ 
 (x.sb = x.sb ∧ Off.lit 0 = Off.lit 0) ∧ 
 ((x.pos : Int) = (↑(Int.toNat (x.pos : Int)) : Int)) ∧ 
 (x.bv = x.bv ∧ x.bn = x.bn) ∧ 
 ((512 : Nat) = (512 : Nat) ∧ x.arr = x.arr) ∧ 
 (x.sb = x.sb) ∧ 
 (x.vs = x.vs ∧ ints x.bs = ints (nats (ints x.bs))) ∧ 
 ((x.off : Int) = (↑(Int.toNat (x.off : Int)) : Int)) ∧ 
 (x.prev = x.prev) ∧ 
 ∀ x2 : (Unit), ((True) → 
 (x1 = x1) ∧ 
 (x.rb = x.rb) ∧ (inI64 ((↑(Int.toNat (IntKind.wrap IntKind.i64 (Int.tdiv (x.dis + IntKind.wrap IntKind.u64 ((x.fed : Int) - (x.num : Int)) + (7 : Int)) (8 : Int)))) : Int) * (8 : Int))) ∧ 
 (inI64 (x.dis + IntKind.wrap IntKind.u64 ((x.fed : Int) - (x.num : Int)) - (↑(Int.toNat (IntKind.wrap IntKind.i64 (Int.tdiv (x.dis + IntKind.wrap IntKind.u64 ((x.fed : Int) - (x.num : Int)) + (7 : Int)) (8 : Int)))) : Int) * (8 : Int))) ∧ 
 (x.rb = x.rb) ∧ (x.rb = x.rb) ∧ (inI64 ((x.off : Int) + (↑(Int.toNat (IntKind.wrap IntKind.i64 (Int.tdiv (x.dis + IntKind.wrap IntKind.u64 ((x.fed : Int) - (x.num : Int)) + (7 : Int)) (8 : Int)))) : Int))) ∧ 
 (x.rb = x.rb) ∧ (x.rb = x.rb) ∧ (x.rb = x.rb) ∧ ∃ x3 : (Unit), (True) ∧ 
 ((x.off : Int) + (↑(Int.toNat (IntKind.wrap IntKind.i64 (Int.tdiv (x.dis + IntKind.wrap IntKind.u64 ((x.fed : Int) - (x.num : Int)) + (7 : Int)) (8 : Int)))) : Int) = (↑((RS.P x + (7 : Nat)) / (8 : Nat)) : Int)) ∧ 
 (Value.nilIface = Value.nilIface) ∧ (x.m = x.m) ∧ 
 (relLe x.rel x.rel) ∧ 
 (x.rb = x.rb) ∧ 
 ((x.off : Int) + (↑(Int.toNat (IntKind.wrap IntKind.i64 (Int.tdiv (x.dis + IntKind.wrap IntKind.u64 ((x.fed : Int) - (x.num : Int)) + (7 : Int)) (8 : Int)))) : Int) = (↑((RS.P x + (7 : Nat)) / (8 : Nat)) : Int)) ∧ 
 (x.sb = x.sb ∧ Off.lit 0 = Off.lit 0) ∧ 
 (Value.nilIface = Value.nilIface) ∧ (x.bb = x.bb ∧ Off.lit 0 = Off.lit 0) ∧ 
 ((x.bits : Int) = (x.bits : Int)) ∧ 
 ((x.num : Int) = (x.num : Int)) ∧ 
 (x.big = x.big) ∧ 
 (Value.slice none 0 0 = Value.slice none 0 0 ∧ Value.slice none 0 0 = Value.slice none 0 0 ∧ (0 : Nat) = (0 : Nat)) ∧ 
 (x.dis + IntKind.wrap IntKind.u64 ((x.fed : Int) - (x.num : Int)) - (↑(Int.toNat (IntKind.wrap IntKind.i64 (Int.tdiv (x.dis + IntKind.wrap IntKind.u64 ((x.fed : Int) - (x.num : Int)) + (7 : Int)) (8 : Int)))) : Int) * (8 : Int) = (↑(RS.P x) : Int) - (8 : Int) * (↑((RS.P x + (7 : Nat)) / (8 : Nat)) : Int)) ∧ 
 ((x.num : Int) = (x.num : Int)) ∧ 
 (Value.pointer none = Value.pointer none) ∧ (x.bb = x.bb ∧ Off.lit 0 = Off.lit 0) ∧ 
 (Value.pointer none = Value.pointer none) ∧ (x.sb = x.sb) ∧ 
 (x.vs = x.vs ∧ ints (nats (ints x.bs)) = ints x.bs) ∧ 
 ((↑(Int.toNat (x.off : Int) + Int.toNat (IntKind.wrap IntKind.i64 (Int.tdiv (x.dis + IntKind.wrap IntKind.u64 ((x.fed : Int) - (x.num : Int)) + (7 : Int)) (8 : Int)))) : Int) = (↑((RS.P x + (7 : Nat)) / (8 : Nat)) : Int)) ∧ 
 ((-1 : Int) = (-1 : Int)) ∧ 
 (x.bb = x.bb) ∧ 
 (x.sb = x.sb ∧ Off.lit 0 = Off.lit 0) ∧ 
 ((↑(Int.toNat (x.pos : Int)) : Int) = (x.pos : Int)) ∧ 
 (x.bv = x.bv ∧ x.bn = x.bn) ∧ 
 ((512 : Nat) = (512 : Nat) ∧ x.arr = x.arr) ∧ 
 (True))
noncomputable def law_c80 (G : Gl) (P : Nat) (x : RS) : VCT := fnx (CH G 4) (INH G 4 b80 NA) noAnn Tryz.f80 ((c80 P).args x) ((c80 P).H x) (outK true 5 ((c80 P).ret x)) ((c80 P).pan x)
theorem eq_c80 (G : Gl) (P : Nat) (x : RS) : cond_c80 G P x = (law_c80 G P x).den := by kernel_rfl
theorem ok_c164 (G : Gl) (m : Fz) (rel : Rel TT) (n : Nat) (hn : n < 256) : cond_c164 G m rel n := by
  unfold cond_c164
  refine ⟨by decide, by decide, by decide, by decide, by decide, by decide, (), trivial, ?_, rfl, relLe.refl _, trivial⟩
  exact lut_ok ⟨n, hn⟩
theorem ok_c80 (G : Gl) (P : Nat) (x : RS) (hx : rsW x) : cond_c80 G P x := by
  unfold cond_c80
  obtain ⟨h1, h2, e0, h4, h5, h6, h7, h8, h9, h10, h11, hd, hf⟩ := hx
  have e1 : IntKind.u64.wrap ((x.fed : Int) - (x.num : Int)) = (x.fed : Int) - (x.num : Int) := by rw [wr64]; omega
  have e2 : x.dis + ((x.fed : Int) - (x.num : Int)) = (x.P : Int) - 8 * x.off := by omega
  have e4 : Int.tdiv ((x.P : Int) - 8 * x.off + 7) 8 = (((x.P + 7) / 8 - x.off : Nat) : Int) := by rw [Int.tdiv_eq_ediv_of_nonneg (by omega)]; omega
  have e5 : IntKind.i64.wrap (((x.P + 7) / 8 - x.off : Nat) : Int) = (((x.P + 7) / 8 - x.off : Nat) : Int) := wrI (by omega) (by omega)
  have e3 : ∀ l : List Nat, nats (ints l) = l := nats_ints
  simp only [e1, e2, e4, e5, e3, rel_self, true_and, and_true, inI64, Int.toNat_natCast]
  refine ⟨by omega, by omega, by omega, by decide, fun m => ⟨⟨⟨h8, h7, by dsimp only; omega, h2, h10⟩, by omega⟩, fun _ _ => ⟨by omega, by omega, by omega, (), by omega, by omega, by omega, by omega⟩⟩⟩
theorem s164 (G : Gl) : SpecOK (CC G) 164 c164.pt := spec G (no_ok G) (fn := Tryz.f164) rfl NA c164 (fun _ => noAnn) fun ⟨m, rel, n⟩ h => Met.of (eq_c164 G m rel n) (ok_c164 G m rel n h)
theorem b80_ok (G : Gl) : ∀ f pt, b80 f = some pt → SpecOK (CC G) f pt := by
  intro f pt h
  unfold b80 at h
  split at h
  · cases h; exact loc_ok (s213 G) _
  · cases h
theorem s80 (G : Gl) (P : Nat) : SpecOK (CC G) 80 (c80 P).pt := specH G 4 (b80_ok G) (fn := Tryz.f80) rfl NA (c80 P) (fun _ => noAnn) fun x h => Met.of (eq_c80 G P x) (ok_c80 G P x h)
end Pc
/-
  PullBits does what its contract says.
-/
set_option linter.unusedVariables false
set_option maxRecDepth 100000
open Go Go.Vg Go.Proofs
namespace Pc
def cond_c143 (G : Gl) (P : Nat) (x : RS) (nb : Nat) : Prop :=
 (x.rb = x.rb) ∧ (x.rb = x.rb) ∧ (x.rb = x.rb) ∧ (x.rb = x.rb) ∧ (inI64 (IntKind.wrap IntKind.u64 ((x.fed : Int) - (x.num : Int)))) ∧ 
 (inI64 (x.dis + IntKind.wrap IntKind.u64 ((x.fed : Int) - (x.num : Int)))) ∧ 
 (x.rb = x.rb) ∧ (∃ x1 : (RV), (plOK x x1) ∧ 
 (x.m = x.m) ∧ (relLe x.rel x.rel) ∧ 
 (x.rb = x.rb) ∧ 
 ((x.off : Int) = (x1.off : Int)) ∧ 
 (x.sb = x.sb ∧ Off.lit 0 = Off.lit 0) ∧ 
 (Value.nilIface = Value.nilIface) ∧ (x.bb = x.bb ∧ Off.lit 0 = Off.lit 0) ∧ 
 ((x.bits : Int) = (x1.bits : Int)) ∧ 
 ((x.num : Int) = (x1.num : Int)) ∧ 
 (x.big = x.big) ∧ 
 (x.pk = x1.pk ∧ x.pkn = x1.pkn) ∧ 
 (x.dis + IntKind.wrap IntKind.u64 ((x.fed : Int) - (x.num : Int)) = x1.dis) ∧ 
 ((x.fed : Int) = (x1.fed : Int)) ∧ 
 (Value.pointer none = Value.pointer none) ∧ (x.bb = x.bb ∧ Off.lit 0 = Off.lit 0) ∧ 
 (Value.pointer none = Value.pointer none) ∧ (x.sb = x.sb) ∧ 
 (x.vs = x.vs ∧ ints x.bs = ints x.bs) ∧ 
 ((x.off : Int) = (x1.off : Int)) ∧ 
 (x.prev = x1.prev) ∧ 
 (x.bb = x.bb) ∧ 
 (x.sb = x.sb ∧ Off.lit 0 = Off.lit 0) ∧ 
 ((x.pos : Int) = (x1.pos : Int)) ∧ 
 (x.bv = x1.bv ∧ x.bn = x1.bn) ∧ 
 ((512 : Nat) = (512 : Nat) ∧ x.arr = x1.arr) ∧ 
 ∀ x2 : (RV), ((plOK x x2) → 
 ((x.rb = x.rb) ∧ 
 Br ((x2.pkn : Int) == (0 : Int))
 ((x.rb = x.rb) ∧ 
 (x.rb = x.rb) ∧ 
 ∃ x3 : (Nat), ∀ x4 : (Nat → Option Obj), (rsW (RS.mk x4 x.rel x.rb x.sb x.bb x.vs (nats (ints x.bs)) x.big x3 (Int.toNat (x2.off : Int)) (Int.toNat (x2.bits : Int)) (Int.toNat (x2.num : Int)) x2.pk x2.pkn x2.dis (Int.toNat (x2.num : Int)) (Int.toNat (x2.pos : Int)) x2.bv x2.bn x2.arr x2.prev)) ∧ 
 (x.rb = x.rb ∧ Off.lit 0 = Off.lit 0) ∧ 
 (x4 = x4) ∧ 
 (relLe x.rel x.rel) ∧ 
 (x.rb = x.rb) ∧ 
 ((x2.off : Int) = (↑(Int.toNat (x2.off : Int)) : Int)) ∧ 
 (x.sb = x.sb ∧ Off.lit 0 = Off.lit 0) ∧ 
 (Value.nilIface = Value.nilIface) ∧ (x.bb = x.bb ∧ Off.lit 0 = Off.lit 0) ∧ 
 ((x2.bits : Int) = (↑(Int.toNat (x2.bits : Int)) : Int)) ∧ 
 ((x2.num : Int) = (↑(Int.toNat (x2.num : Int)) : Int)) ∧ 
 (x.big = x.big) ∧ 
 (x2.pk = x2.pk ∧ x2.pkn = x2.pkn) ∧ 
 (x2.dis = x2.dis) ∧ 
 ((x2.num : Int) = (↑(Int.toNat (x2.num : Int)) : Int)) ∧ 
 (Value.pointer none = Value.pointer none) ∧ (x.bb = x.bb ∧ Off.lit 0 = Off.lit 0) ∧ 
 (Value.pointer none = Value.pointer none) ∧ (x.sb = x.sb) ∧ 
 (x.vs = x.vs ∧ ints x.bs = ints (nats (ints x.bs))) ∧ 
 ((x2.off : Int) = (↑(Int.toNat (x2.off : Int)) : Int)) ∧ 
 (x2.prev = x2.prev) ∧ 
 (x.bb = x.bb) ∧ 
 (x.sb = x.sb ∧ Off.lit 0 = Off.lit 0) ∧ 
 ((x2.pos : Int) = (↑(Int.toNat (x2.pos : Int)) : Int)) ∧ 
 (x2.bv = x2.bv ∧ x2.bn = x2.bn) ∧ 
 ((512 : Nat) = (512 : Nat) ∧ x2.arr = x2.arr) ∧ 
 ∀ x5 : (Unit), ((True) → 
 (x4 = x4) ∧ 
 (inI64 (IntKind.wrap IntKind.u64 ((↑nb : Int) + bitI BinOp.and IntKind.u64 (IntKind.wrap IntKind.u64 ((0 : Int) - (↑nb : Int))) (7 : Int)))) ∧ 
 ((8 : Int) ≠ (0 : Int)) ∧ 
 ((x.rb = x.rb) ∧ 
 ∀ x6 : (Nat → Option Obj), (rbOK (RB.mk x6 x.rel x.bb x.sb (Int.toNat (↑(Int.toNat (x2.pos : Int)) : Int)) x2.bv x2.bn x2.arr x.vs (nats (ints (nats (ints x.bs)))) (Int.toNat (↑((x3 + (7 : Nat)) / (8 : Nat)) : Int)) (-1 : Int))) ∧ 
 (x.bb = x.bb ∧ Off.lit 0 = Off.lit 0) ∧ 
 (x6 = x6) ∧ 
 (relLe x.rel x.rel) ∧ 
 (x.bb = x.bb) ∧ 
 (x.sb = x.sb ∧ Off.lit 0 = Off.lit 0) ∧ 
 ((↑(Int.toNat (x2.pos : Int)) : Int) = (↑(Int.toNat (↑(Int.toNat (x2.pos : Int)) : Int)) : Int)) ∧ 
 (x2.bv = x2.bv ∧ x2.bn = x2.bn) ∧ 
 ((512 : Nat) = (512 : Nat) ∧ x2.arr = x2.arr) ∧ 
 (x.sb = x.sb) ∧ 
 (x.vs = x.vs ∧ ints (nats (ints x.bs)) = ints (nats (ints (nats (ints x.bs))))) ∧ 
 ((↑((x3 + (7 : Nat)) / (8 : Nat)) : Int) = (↑(Int.toNat (↑((x3 + (7 : Nat)) / (8 : Nat)) : Int)) : Int)) ∧ 
 ((-1 : Int) = (-1 : Int)) ∧ 
 ∀ x7 : (Value × Nat), ((x7.2 = x2.bn - (Int.toNat (↑((x3 + (7 : Nat)) / (8 : Nat)) : Int) - Int.toNat (↑(Int.toNat (x2.pos : Int)) : Int)) ∧ vw x.bb x2.arr (nats (ints (nats (ints x.bs)))) x7.1 x7.2 (Int.toNat (↑((x3 + (7 : Nat)) / (8 : Nat)) : Int))) → 
 (x6 = x6) ∧ 
 Br (decide (IntKind.wrap IntKind.i64 (Int.tdiv (IntKind.wrap IntKind.u64 ((↑nb : Int) + bitI BinOp.and IntKind.u64 (IntKind.wrap IntKind.u64 ((0 : Int) - (↑nb : Int))) (7 : Int))) (8 : Int)) < (x7.2 : Int)))
 ((x.rb = x.rb) ∧ 
 ∀ x8 : (Nat → Option Obj), (rbOK (RB.mk x8 x.rel x.bb x.sb (Int.toNat (↑(Int.toNat (↑((x3 + (7 : Nat)) / (8 : Nat)) : Int)) : Int)) x7.1 x7.2 x2.arr x.vs (nats (ints (nats (ints (nats (ints x.bs)))))) (Int.toNat (↑(Int.toNat (↑((x3 + (7 : Nat)) / (8 : Nat)) : Int)) : Int)) (-1 : Int))) ∧ 
 (x.bb = x.bb ∧ Off.lit 0 = Off.lit 0) ∧ 
 (x8 = x8) ∧ 
 (relLe x.rel x.rel) ∧ 
 (x.bb = x.bb) ∧ 
 (x.sb = x.sb ∧ Off.lit 0 = Off.lit 0) ∧ 
 ((↑(Int.toNat (↑((x3 + (7 : Nat)) / (8 : Nat)) : Int)) : Int) = (↑(Int.toNat (↑(Int.toNat (↑((x3 + (7 : Nat)) / (8 : Nat)) : Int)) : Int)) : Int)) ∧ 
 (x7.1 = x7.1 ∧ x7.2 = x7.2) ∧ 
 ((512 : Nat) = (512 : Nat) ∧ x2.arr = x2.arr) ∧ 
 (x.sb = x.sb) ∧ 
 (x.vs = x.vs ∧ ints (nats (ints (nats (ints x.bs)))) = ints (nats (ints (nats (ints (nats (ints x.bs))))))) ∧ 
 ((↑(Int.toNat (↑((x3 + (7 : Nat)) / (8 : Nat)) : Int)) : Int) = (↑(Int.toNat (↑(Int.toNat (↑((x3 + (7 : Nat)) / (8 : Nat)) : Int)) : Int)) : Int)) ∧ 
 ((-1 : Int) = (-1 : Int)) ∧ 
 ∀ x9 : (Value × Nat), ((x9.2 = x7.2 - (Int.toNat (↑(Int.toNat (↑((x3 + (7 : Nat)) / (8 : Nat)) : Int)) : Int) - Int.toNat (↑(Int.toNat (↑((x3 + (7 : Nat)) / (8 : Nat)) : Int)) : Int)) ∧ vw x.bb x2.arr (nats (ints (nats (ints (nats (ints x.bs)))))) x9.1 x9.2 (Int.toNat (↑(Int.toNat (↑((x3 + (7 : Nat)) / (8 : Nat)) : Int)) : Int))) → 
 (x8 = x8) ∧ 
 ∃ x10 : (RV × Nat), (flOK x x10.1 ∧ x10.1.num = Int.toNat (↑(Int.toNat (x2.num : Int)) : Int) ∧ (nb + (7 : Nat)) / (8 : Nat) ≤ x10.2 ∧ x10.1.bn ≤ x10.2 ∧ x10.2 ≤ (512 : Nat)) ∧ 
 (Value.nilIface = Value.nilIface) ∧ ((x9.2 : Int) = (x10.2 : Int)) ∧ 
 (x.m = x.m) ∧ (relLe x.rel x.rel) ∧ 
 (x.rb = x.rb) ∧ 
 ((↑((x3 + (7 : Nat)) / (8 : Nat)) : Int) = (x10.1.off : Int)) ∧ 
 (x.sb = x.sb ∧ Off.lit 0 = Off.lit 0) ∧ 
 (Value.nilIface = Value.nilIface) ∧ (x.bb = x.bb ∧ Off.lit 0 = Off.lit 0) ∧ 
 ((↑(Int.toNat (x2.bits : Int)) : Int) = (x10.1.bits : Int)) ∧ 
 ((↑(Int.toNat (x2.num : Int)) : Int) = (x10.1.num : Int)) ∧ 
 (x.big = x.big) ∧ 
 (Value.slice none 0 0 = x10.1.pk ∧ (0 : Nat) = x10.1.pkn) ∧ 
 ((x3 : Int) - (8 : Int) * (↑((x3 + (7 : Nat)) / (8 : Nat)) : Int) = x10.1.dis) ∧ 
 ((↑(Int.toNat (x2.num : Int)) : Int) = (x10.1.fed : Int)) ∧ 
 (Value.pointer none = Value.pointer none) ∧ (x.bb = x.bb ∧ Off.lit 0 = Off.lit 0) ∧ 
 (Value.pointer none = Value.pointer none) ∧ (x.sb = x.sb) ∧ 
 (x.vs = x.vs ∧ ints (nats (ints (nats (ints (nats (ints x.bs)))))) = ints x.bs) ∧ 
 ((↑(Int.toNat (↑(Int.toNat (↑((x3 + (7 : Nat)) / (8 : Nat)) : Int)) : Int)) : Int) = (x10.1.off : Int)) ∧ 
 ((-1 : Int) = x10.1.prev) ∧ 
 (x.bb = x.bb) ∧ 
 (x.sb = x.sb ∧ Off.lit 0 = Off.lit 0) ∧ 
 ((↑(Int.toNat (↑(Int.toNat (↑((x3 + (7 : Nat)) / (8 : Nat)) : Int)) : Int)) : Int) = (x10.1.pos : Int)) ∧ 
 (x9.1 = x10.1.bv ∧ x9.2 = x10.1.bn) ∧ 
 ((512 : Nat) = (512 : Nat) ∧ x2.arr = x10.1.arr) ∧ 
 (True)))
 (∃ x8 : (RV × Nat), (flOK x x8.1 ∧ x8.1.num = Int.toNat (↑(Int.toNat (x2.num : Int)) : Int) ∧ (nb + (7 : Nat)) / (8 : Nat) ≤ x8.2 ∧ x8.1.bn ≤ x8.2 ∧ x8.2 ≤ (512 : Nat)) ∧ 
 (Value.nilIface = Value.nilIface) ∧ (IntKind.wrap IntKind.i64 (Int.tdiv (IntKind.wrap IntKind.u64 ((↑nb : Int) + bitI BinOp.and IntKind.u64 (IntKind.wrap IntKind.u64 ((0 : Int) - (↑nb : Int))) (7 : Int))) (8 : Int)) = (x8.2 : Int)) ∧ 
 (x.m = x.m) ∧ (relLe x.rel x.rel) ∧ 
 (x.rb = x.rb) ∧ 
 ((↑((x3 + (7 : Nat)) / (8 : Nat)) : Int) = (x8.1.off : Int)) ∧ 
 (x.sb = x.sb ∧ Off.lit 0 = Off.lit 0) ∧ 
 (Value.nilIface = Value.nilIface) ∧ (x.bb = x.bb ∧ Off.lit 0 = Off.lit 0) ∧ 
 ((↑(Int.toNat (x2.bits : Int)) : Int) = (x8.1.bits : Int)) ∧ 
 ((↑(Int.toNat (x2.num : Int)) : Int) = (x8.1.num : Int)) ∧ 
 (x.big = x.big) ∧ 
 (Value.slice none 0 0 = x8.1.pk ∧ (0 : Nat) = x8.1.pkn) ∧ 
 ((x3 : Int) - (8 : Int) * (↑((x3 + (7 : Nat)) / (8 : Nat)) : Int) = x8.1.dis) ∧ 
 ((↑(Int.toNat (x2.num : Int)) : Int) = (x8.1.fed : Int)) ∧ 
 (Value.pointer none = Value.pointer none) ∧ (x.bb = x.bb ∧ Off.lit 0 = Off.lit 0) ∧ 
 (Value.pointer none = Value.pointer none) ∧ (x.sb = x.sb) ∧ 
 (x.vs = x.vs ∧ ints (nats (ints (nats (ints x.bs)))) = ints x.bs) ∧ 
 ((↑(Int.toNat (↑((x3 + (7 : Nat)) / (8 : Nat)) : Int)) : Int) = (x8.1.off : Int)) ∧ 
 ((-1 : Int) = x8.1.prev) ∧ 
 (x.bb = x.bb) ∧ 
 (x.sb = x.sb ∧ Off.lit 0 = Off.lit 0) ∧ 
 ((↑(Int.toNat (↑((x3 + (7 : Nat)) / (8 : Nat)) : Int)) : Int) = (x8.1.pos : Int)) ∧ 
 (x7.1 = x8.1.bv ∧ x7.2 = x8.1.bn) ∧ 
 ((512 : Nat) = (512 : Nat) ∧ x2.arr = x8.1.arr) ∧ 
 (True)))) ∧
 (∀ x6 : (RV × Nat), ((flOK x x6.1 ∧ x6.1.num = Int.toNat (↑(Int.toNat (x2.num : Int)) : Int) ∧ (nb + (7 : Nat)) / (8 : Nat) ≤ x6.2 ∧ x6.1.bn ≤ x6.2 ∧ x6.2 ≤ (512 : Nat)) → 
 (x.rb = x.rb) ∧ 
 ∀ x7 : (Nat → Option Obj), (rbOK (RB.mk x7 x.rel x.bb x.sb (Int.toNat (x6.1.pos : Int)) x6.1.bv x6.1.bn x6.1.arr x.vs (nats (ints x.bs)) (Int.toNat (x6.1.off : Int)) x6.1.prev) ∧ Int.toNat (x6.2 : Int) ≤ (512 : Nat)) ∧ 
 (x.bb = x.bb ∧ Off.lit 0 = Off.lit 0) ∧ 
 ((x6.2 : Int) = (↑(Int.toNat (x6.2 : Int)) : Int)) ∧ 
 (x7 = x7) ∧ 
 (relLe x.rel x.rel) ∧ 
 (x.bb = x.bb) ∧ 
 (x.sb = x.sb ∧ Off.lit 0 = Off.lit 0) ∧ 
 ((x6.1.pos : Int) = (↑(Int.toNat (x6.1.pos : Int)) : Int)) ∧ 
 (x6.1.bv = x6.1.bv ∧ x6.1.bn = x6.1.bn) ∧ 
 ((512 : Nat) = (512 : Nat) ∧ x6.1.arr = x6.1.arr) ∧ 
 (x.sb = x.sb) ∧ 
 (x.vs = x.vs ∧ ints x.bs = ints (nats (ints x.bs))) ∧ 
 ((x6.1.off : Int) = (↑(Int.toNat (x6.1.off : Int)) : Int)) ∧ 
 (x6.1.prev = x6.1.prev) ∧ 
 (∀ x8 : (Y214), ((Int.toNat (x6.2 : Int) ≤ List.length (nats (ints x.bs)) - Int.toNat (x6.1.off : Int) ∧ pk214 (RB.mk x7 x.rel x.bb x.sb (Int.toNat (x6.1.pos : Int)) x6.1.bv x6.1.bn x6.1.arr x.vs (nats (ints x.bs)) (Int.toNat (x6.1.off : Int)) x6.1.prev) (Int.toNat (x6.2 : Int)) (Int.toNat (x6.2 : Int)) x8) → 
 (x7 = x7) ∧ 
 (x.rb = x.rb) ∧ 
 (x.rb = x.rb) ∧ 
 (x.rb = x.rb) ∧ 
 ((8 : Int) ≠ (0 : Int)) ∧ 
 (inI64 (IntKind.wrap IntKind.u64 (Int.tdiv (x6.1.num : Int) (8 : Int)))) ∧ 
 ((0 : Int) ≤ IntKind.wrap IntKind.u64 (Int.tdiv (x6.1.num : Int) (8 : Int)) ∧ IntKind.wrap IntKind.u64 (Int.tdiv (x6.1.num : Int) (8 : Int)) ≤ (↑(Int.toNat (x6.2 : Int)) : Int) ∧ (↑(Int.toNat (x6.2 : Int)) : Int) ≤ (↑(capVal (Y214.pv x8)) : Int)) ∧ 
 (x.rb = x.rb) ∧ 
 (x.rb = x.rb) ∧ 
 Br ((↑(Int.toNat (↑(Int.toNat (x6.2 : Int)) : Int) - Int.toNat (IntKind.wrap IntKind.u64 (Int.tdiv (x6.1.num : Int) (8 : Int)))) : Int) == (0 : Int))
 ((x.rb = x.rb) ∧ 
 Br (decide ((x6.1.num : Int) ≥ (↑nb : Int)))
 (∃ x9 : (RV), (plOK x x9 ∧ nb ≤ x9.num) ∧ 
 (x.m = x.m) ∧ (relLe x.rel x.rel) ∧ 
 (x.rb = x.rb) ∧ 
 ((x6.1.off : Int) = (x9.off : Int)) ∧ 
 (x.sb = x.sb ∧ Off.lit 0 = Off.lit 0) ∧ 
 (Value.nilIface = Value.nilIface) ∧ (x.bb = x.bb ∧ Off.lit 0 = Off.lit 0) ∧ 
 ((x6.1.bits : Int) = (x9.bits : Int)) ∧ 
 ((x6.1.num : Int) = (x9.num : Int)) ∧ 
 (x.big = x.big) ∧ 
 (sliceVal (Y214.pv x8) (Int.toNat (IntKind.wrap IntKind.u64 (Int.tdiv (x6.1.num : Int) (8 : Int)))) (Int.toNat (↑(Int.toNat (x6.2 : Int)) : Int)) 1 = x9.pk ∧ Int.toNat (↑(Int.toNat (x6.2 : Int)) : Int) - Int.toNat (IntKind.wrap IntKind.u64 (Int.tdiv (x6.1.num : Int) (8 : Int))) = x9.pkn) ∧ 
 (x6.1.dis = x9.dis) ∧ 
 ((x6.1.fed : Int) = (x9.fed : Int)) ∧ 
 (Value.pointer none = Value.pointer none) ∧ (x.bb = x.bb ∧ Off.lit 0 = Off.lit 0) ∧ 
 (Value.pointer none = Value.pointer none) ∧ (x.sb = x.sb) ∧ 
 (x.vs = x.vs ∧ ints (nats (ints x.bs)) = ints x.bs) ∧ 
 ((↑(Int.toNat (x6.1.off : Int)) : Int) = (x9.off : Int)) ∧ 
 ((-1 : Int) = x9.prev) ∧ 
 (x.bb = x.bb) ∧ 
 (x.sb = x.sb ∧ Off.lit 0 = Off.lit 0) ∧ 
 ((↑(Int.toNat (x6.1.off : Int)) : Int) = (x9.pos : Int)) ∧ 
 (Y214.bv x8 = x9.bv ∧ Y214.bn x8 = x9.bn) ∧ 
 ((512 : Nat) = (512 : Nat) ∧ Y214.arr x8 = x9.arr) ∧ 
 (True))
 (((∃ x9 : (RV), (pulled x nb x9) ∧ 
 (Value.nilIface = Value.nilIface) ∧ (x.m = x.m) ∧ 
 (relLe x.rel x.rel) ∧ 
 (x.rb = x.rb) ∧ 
 ((x6.1.off : Int) = (x9.off : Int)) ∧ 
 (x.sb = x.sb ∧ Off.lit 0 = Off.lit 0) ∧ 
 (Value.nilIface = Value.nilIface) ∧ (x.bb = x.bb ∧ Off.lit 0 = Off.lit 0) ∧ 
 ((x6.1.bits : Int) = (x9.bits : Int)) ∧ 
 ((x6.1.num : Int) = (x9.num : Int)) ∧ 
 (x.big = x.big) ∧ 
 (sliceVal (Y214.pv x8) (Int.toNat (IntKind.wrap IntKind.u64 (Int.tdiv (x6.1.num : Int) (8 : Int)))) (Int.toNat (↑(Int.toNat (x6.2 : Int)) : Int)) 1 = x9.pk ∧ Int.toNat (↑(Int.toNat (x6.2 : Int)) : Int) - Int.toNat (IntKind.wrap IntKind.u64 (Int.tdiv (x6.1.num : Int) (8 : Int))) = x9.pkn) ∧ 
 (x6.1.dis = x9.dis) ∧ 
 ((x6.1.fed : Int) = (x9.fed : Int)) ∧ 
 (Value.pointer none = Value.pointer none) ∧ (x.bb = x.bb ∧ Off.lit 0 = Off.lit 0) ∧ 
 (Value.pointer none = Value.pointer none) ∧ (x.sb = x.sb) ∧ 
 (x.vs = x.vs ∧ ints (nats (ints x.bs)) = ints x.bs) ∧ 
 ((↑(Int.toNat (x6.1.off : Int)) : Int) = (x9.off : Int)) ∧ 
 ((-1 : Int) = x9.prev) ∧ 
 (x.bb = x.bb) ∧ 
 (x.sb = x.sb ∧ Off.lit 0 = Off.lit 0) ∧ 
 ((↑(Int.toNat (x6.1.off : Int)) : Int) = (x9.pos : Int)) ∧ 
 (Y214.bv x8 = x9.bv ∧ Y214.bn x8 = x9.bn) ∧ 
 ((512 : Nat) = (512 : Nat) ∧ Y214.arr x8 = x9.arr) ∧ 
 (True)) ∨
 (∃ x9 : (RV), (dry x nb x9) ∧ 
 (Value.nilIface = errV (Gl.U G)) ∧ 
 (x.m = x.m) ∧ 
 (relLe x.rel x.rel) ∧ 
 (x.rb = x.rb) ∧ 
 ((x6.1.off : Int) = (x9.off : Int)) ∧ 
 (x.sb = x.sb ∧ Off.lit 0 = Off.lit 0) ∧ 
 (Value.nilIface = Value.nilIface) ∧ (x.bb = x.bb ∧ Off.lit 0 = Off.lit 0) ∧ 
 ((x6.1.bits : Int) = (x9.bits : Int)) ∧ 
 ((x6.1.num : Int) = (x9.num : Int)) ∧ 
 (x.big = x.big) ∧ 
 (sliceVal (Y214.pv x8) (Int.toNat (IntKind.wrap IntKind.u64 (Int.tdiv (x6.1.num : Int) (8 : Int)))) (Int.toNat (↑(Int.toNat (x6.2 : Int)) : Int)) 1 = x9.pk ∧ Int.toNat (↑(Int.toNat (x6.2 : Int)) : Int) - Int.toNat (IntKind.wrap IntKind.u64 (Int.tdiv (x6.1.num : Int) (8 : Int))) = x9.pkn) ∧ 
 (x6.1.dis = x9.dis) ∧ 
 ((x6.1.fed : Int) = (x9.fed : Int)) ∧ 
 (Value.pointer none = Value.pointer none) ∧ (x.bb = x.bb ∧ Off.lit 0 = Off.lit 0) ∧ 
 (Value.pointer none = Value.pointer none) ∧ (x.sb = x.sb) ∧ 
 (x.vs = x.vs ∧ ints (nats (ints x.bs)) = ints x.bs) ∧ 
 ((↑(Int.toNat (x6.1.off : Int)) : Int) = (x9.off : Int)) ∧ 
 ((-1 : Int) = x9.prev) ∧ 
 (x.bb = x.bb) ∧ 
 (x.sb = x.sb ∧ Off.lit 0 = Off.lit 0) ∧ 
 ((↑(Int.toNat (x6.1.off : Int)) : Int) = (x9.pos : Int)) ∧ 
 (Y214.bv x8 = x9.bv ∧ Y214.bn x8 = x9.bn) ∧ 
 ((512 : Nat) = (512 : Nat) ∧ Y214.arr x8 = x9.arr) ∧ 
 (True)))))
 (∃ x9 : (RV), (plOK x x9 ∧ (0 : Nat) < x9.pkn ∧ x9.num = Int.toNat (x2.num : Int)) ∧ 
 (x.m = x.m) ∧ (relLe x.rel x.rel) ∧ 
 (x.rb = x.rb) ∧ 
 ((x6.1.off : Int) = (x9.off : Int)) ∧ 
 (x.sb = x.sb ∧ Off.lit 0 = Off.lit 0) ∧ 
 (Value.nilIface = Value.nilIface) ∧ (x.bb = x.bb ∧ Off.lit 0 = Off.lit 0) ∧ 
 ((x6.1.bits : Int) = (x9.bits : Int)) ∧ 
 ((x6.1.num : Int) = (x9.num : Int)) ∧ 
 (x.big = x.big) ∧ 
 (sliceVal (Y214.pv x8) (Int.toNat (IntKind.wrap IntKind.u64 (Int.tdiv (x6.1.num : Int) (8 : Int)))) (Int.toNat (↑(Int.toNat (x6.2 : Int)) : Int)) 1 = x9.pk ∧ Int.toNat (↑(Int.toNat (x6.2 : Int)) : Int) - Int.toNat (IntKind.wrap IntKind.u64 (Int.tdiv (x6.1.num : Int) (8 : Int))) = x9.pkn) ∧ 
 (x6.1.dis = x9.dis) ∧ 
 ((x6.1.fed : Int) = (x9.fed : Int)) ∧ 
 (Value.pointer none = Value.pointer none) ∧ (x.bb = x.bb ∧ Off.lit 0 = Off.lit 0) ∧ 
 (Value.pointer none = Value.pointer none) ∧ (x.sb = x.sb) ∧ 
 (x.vs = x.vs ∧ ints (nats (ints x.bs)) = ints x.bs) ∧ 
 ((↑(Int.toNat (x6.1.off : Int)) : Int) = (x9.off : Int)) ∧ 
 ((-1 : Int) = x9.prev) ∧ 
 (x.bb = x.bb) ∧ 
 (x.sb = x.sb ∧ Off.lit 0 = Off.lit 0) ∧ 
 ((↑(Int.toNat (x6.1.off : Int)) : Int) = (x9.pos : Int)) ∧ 
 (Y214.bv x8 = x9.bv ∧ Y214.bn x8 = x9.bn) ∧ 
 ((512 : Nat) = (512 : Nat) ∧ Y214.arr x8 = x9.arr) ∧ 
 (True)))) ∧
 (∀ x8 : (Y214), ((List.length (nats (ints x.bs)) - Int.toNat (x6.1.off : Int) < Int.toNat (x6.2 : Int) ∧ pk214 (RB.mk x7 x.rel x.bb x.sb (Int.toNat (x6.1.pos : Int)) x6.1.bv x6.1.bn x6.1.arr x.vs (nats (ints x.bs)) (Int.toNat (x6.1.off : Int)) x6.1.prev) (Int.toNat (x6.2 : Int)) (List.length (nats (ints x.bs)) - Int.toNat (x6.1.off : Int)) x8) → 
 (x7 = x7) ∧ 
 (x.rb = x.rb) ∧ 
 (x.rb = x.rb) ∧ 
 (x.rb = x.rb) ∧ 
 ((8 : Int) ≠ (0 : Int)) ∧ 
 (inI64 (IntKind.wrap IntKind.u64 (Int.tdiv (x6.1.num : Int) (8 : Int)))) ∧ 
 ((0 : Int) ≤ IntKind.wrap IntKind.u64 (Int.tdiv (x6.1.num : Int) (8 : Int)) ∧ IntKind.wrap IntKind.u64 (Int.tdiv (x6.1.num : Int) (8 : Int)) ≤ (↑(List.length (nats (ints x.bs)) - Int.toNat (x6.1.off : Int)) : Int) ∧ (↑(List.length (nats (ints x.bs)) - Int.toNat (x6.1.off : Int)) : Int) ≤ (↑(capVal (Y214.pv x8)) : Int)) ∧ 
 (x.rb = x.rb) ∧ 
 (x.rb = x.rb) ∧ 
 Br ((↑(Int.toNat (↑(List.length (nats (ints x.bs)) - Int.toNat (x6.1.off : Int)) : Int) - Int.toNat (IntKind.wrap IntKind.u64 (Int.tdiv (x6.1.num : Int) (8 : Int)))) : Int) == (0 : Int))
 ((x.rb = x.rb) ∧ 
 Br (decide ((x6.1.num : Int) ≥ (↑nb : Int)))
 (∃ x9 : (RV), (plOK x x9 ∧ nb ≤ x9.num) ∧ 
 (x.m = x.m) ∧ (relLe x.rel x.rel) ∧ 
 (x.rb = x.rb) ∧ 
 ((x6.1.off : Int) = (x9.off : Int)) ∧ 
 (x.sb = x.sb ∧ Off.lit 0 = Off.lit 0) ∧ 
 (Value.nilIface = Value.nilIface) ∧ (x.bb = x.bb ∧ Off.lit 0 = Off.lit 0) ∧ 
 ((x6.1.bits : Int) = (x9.bits : Int)) ∧ 
 ((x6.1.num : Int) = (x9.num : Int)) ∧ 
 (x.big = x.big) ∧ 
 (sliceVal (Y214.pv x8) (Int.toNat (IntKind.wrap IntKind.u64 (Int.tdiv (x6.1.num : Int) (8 : Int)))) (Int.toNat (↑(List.length (nats (ints x.bs)) - Int.toNat (x6.1.off : Int)) : Int)) 1 = x9.pk ∧ Int.toNat (↑(List.length (nats (ints x.bs)) - Int.toNat (x6.1.off : Int)) : Int) - Int.toNat (IntKind.wrap IntKind.u64 (Int.tdiv (x6.1.num : Int) (8 : Int))) = x9.pkn) ∧ 
 (x6.1.dis = x9.dis) ∧ 
 ((x6.1.fed : Int) = (x9.fed : Int)) ∧ 
 (Value.pointer none = Value.pointer none) ∧ (x.bb = x.bb ∧ Off.lit 0 = Off.lit 0) ∧ 
 (Value.pointer none = Value.pointer none) ∧ (x.sb = x.sb) ∧ 
 (x.vs = x.vs ∧ ints (nats (ints x.bs)) = ints x.bs) ∧ 
 ((↑(Int.toNat (x6.1.off : Int)) : Int) = (x9.off : Int)) ∧ 
 ((-1 : Int) = x9.prev) ∧ 
 (x.bb = x.bb) ∧ 
 (x.sb = x.sb ∧ Off.lit 0 = Off.lit 0) ∧ 
 ((↑(Int.toNat (x6.1.off : Int)) : Int) = (x9.pos : Int)) ∧ 
 (Y214.bv x8 = x9.bv ∧ Y214.bn x8 = x9.bn) ∧ 
 ((512 : Nat) = (512 : Nat) ∧ Y214.arr x8 = x9.arr) ∧ 
 (True))
 ((Gl.E G = Gl.E G) ∧ ((∃ x9 : (RV), (pulled x nb x9) ∧ 
 (errV (Gl.U G) = Value.nilIface) ∧ 
 (x.m = x.m) ∧ 
 (relLe x.rel x.rel) ∧ 
 (x.rb = x.rb) ∧ 
 ((x6.1.off : Int) = (x9.off : Int)) ∧ 
 (x.sb = x.sb ∧ Off.lit 0 = Off.lit 0) ∧ 
 (Value.nilIface = Value.nilIface) ∧ (x.bb = x.bb ∧ Off.lit 0 = Off.lit 0) ∧ 
 ((x6.1.bits : Int) = (x9.bits : Int)) ∧ 
 ((x6.1.num : Int) = (x9.num : Int)) ∧ 
 (x.big = x.big) ∧ 
 (sliceVal (Y214.pv x8) (Int.toNat (IntKind.wrap IntKind.u64 (Int.tdiv (x6.1.num : Int) (8 : Int)))) (Int.toNat (↑(List.length (nats (ints x.bs)) - Int.toNat (x6.1.off : Int)) : Int)) 1 = x9.pk ∧ Int.toNat (↑(List.length (nats (ints x.bs)) - Int.toNat (x6.1.off : Int)) : Int) - Int.toNat (IntKind.wrap IntKind.u64 (Int.tdiv (x6.1.num : Int) (8 : Int))) = x9.pkn) ∧ 
 (x6.1.dis = x9.dis) ∧ 
 ((x6.1.fed : Int) = (x9.fed : Int)) ∧ 
 (Value.pointer none = Value.pointer none) ∧ (x.bb = x.bb ∧ Off.lit 0 = Off.lit 0) ∧ 
 (Value.pointer none = Value.pointer none) ∧ (x.sb = x.sb) ∧ 
 (x.vs = x.vs ∧ ints (nats (ints x.bs)) = ints x.bs) ∧ 
 ((↑(Int.toNat (x6.1.off : Int)) : Int) = (x9.off : Int)) ∧ 
 ((-1 : Int) = x9.prev) ∧ 
 (x.bb = x.bb) ∧ 
 (x.sb = x.sb ∧ Off.lit 0 = Off.lit 0) ∧ 
 ((↑(Int.toNat (x6.1.off : Int)) : Int) = (x9.pos : Int)) ∧ 
 (Y214.bv x8 = x9.bv ∧ Y214.bn x8 = x9.bn) ∧ 
 ((512 : Nat) = (512 : Nat) ∧ Y214.arr x8 = x9.arr) ∧ 
 (True)) ∨
 (∃ x9 : (RV), (dry x nb x9) ∧ 
 (errV (Gl.U G) = errV (Gl.U G)) ∧ (x.m = x.m) ∧ 
 (relLe x.rel x.rel) ∧ 
 (x.rb = x.rb) ∧ 
 ((x6.1.off : Int) = (x9.off : Int)) ∧ 
 (x.sb = x.sb ∧ Off.lit 0 = Off.lit 0) ∧ 
 (Value.nilIface = Value.nilIface) ∧ (x.bb = x.bb ∧ Off.lit 0 = Off.lit 0) ∧ 
 ((x6.1.bits : Int) = (x9.bits : Int)) ∧ 
 ((x6.1.num : Int) = (x9.num : Int)) ∧ 
 (x.big = x.big) ∧ 
 (sliceVal (Y214.pv x8) (Int.toNat (IntKind.wrap IntKind.u64 (Int.tdiv (x6.1.num : Int) (8 : Int)))) (Int.toNat (↑(List.length (nats (ints x.bs)) - Int.toNat (x6.1.off : Int)) : Int)) 1 = x9.pk ∧ Int.toNat (↑(List.length (nats (ints x.bs)) - Int.toNat (x6.1.off : Int)) : Int) - Int.toNat (IntKind.wrap IntKind.u64 (Int.tdiv (x6.1.num : Int) (8 : Int))) = x9.pkn) ∧ 
 (x6.1.dis = x9.dis) ∧ 
 ((x6.1.fed : Int) = (x9.fed : Int)) ∧ 
 (Value.pointer none = Value.pointer none) ∧ (x.bb = x.bb ∧ Off.lit 0 = Off.lit 0) ∧ 
 (Value.pointer none = Value.pointer none) ∧ (x.sb = x.sb) ∧ 
 (x.vs = x.vs ∧ ints (nats (ints x.bs)) = ints x.bs) ∧ 
 ((↑(Int.toNat (x6.1.off : Int)) : Int) = (x9.off : Int)) ∧ 
 ((-1 : Int) = x9.prev) ∧ 
 (x.bb = x.bb) ∧ 
 (x.sb = x.sb ∧ Off.lit 0 = Off.lit 0) ∧ 
 ((↑(Int.toNat (x6.1.off : Int)) : Int) = (x9.pos : Int)) ∧ 
 (Y214.bv x8 = x9.bv ∧ Y214.bn x8 = x9.bn) ∧ 
 ((512 : Nat) = (512 : Nat) ∧ Y214.arr x8 = x9.arr) ∧ 
 (True)))))
 (∃ x9 : (RV), (plOK x x9 ∧ (0 : Nat) < x9.pkn ∧ x9.num = Int.toNat (x2.num : Int)) ∧ 
 (x.m = x.m) ∧ (relLe x.rel x.rel) ∧ 
 (x.rb = x.rb) ∧ 
 ((x6.1.off : Int) = (x9.off : Int)) ∧ 
 (x.sb = x.sb ∧ Off.lit 0 = Off.lit 0) ∧ 
 (Value.nilIface = Value.nilIface) ∧ (x.bb = x.bb ∧ Off.lit 0 = Off.lit 0) ∧ 
 ((x6.1.bits : Int) = (x9.bits : Int)) ∧ 
 ((x6.1.num : Int) = (x9.num : Int)) ∧ 
 (x.big = x.big) ∧ 
 (sliceVal (Y214.pv x8) (Int.toNat (IntKind.wrap IntKind.u64 (Int.tdiv (x6.1.num : Int) (8 : Int)))) (Int.toNat (↑(List.length (nats (ints x.bs)) - Int.toNat (x6.1.off : Int)) : Int)) 1 = x9.pk ∧ Int.toNat (↑(List.length (nats (ints x.bs)) - Int.toNat (x6.1.off : Int)) : Int) - Int.toNat (IntKind.wrap IntKind.u64 (Int.tdiv (x6.1.num : Int) (8 : Int))) = x9.pkn) ∧ 
 (x6.1.dis = x9.dis) ∧ 
 ((x6.1.fed : Int) = (x9.fed : Int)) ∧ 
 (Value.pointer none = Value.pointer none) ∧ (x.bb = x.bb ∧ Off.lit 0 = Off.lit 0) ∧ 
 (Value.pointer none = Value.pointer none) ∧ (x.sb = x.sb) ∧ 
 (x.vs = x.vs ∧ ints (nats (ints x.bs)) = ints x.bs) ∧ 
 ((↑(Int.toNat (x6.1.off : Int)) : Int) = (x9.off : Int)) ∧ 
 ((-1 : Int) = x9.prev) ∧ 
 (x.bb = x.bb) ∧ 
 (x.sb = x.sb ∧ Off.lit 0 = Off.lit 0) ∧ 
 ((↑(Int.toNat (x6.1.off : Int)) : Int) = (x9.pos : Int)) ∧ 
 (Y214.bv x8 = x9.bv ∧ Y214.bn x8 = x9.bn) ∧ 
 ((512 : Nat) = (512 : Nat) ∧ Y214.arr x8 = x9.arr) ∧ 
 (True))))))))
 (∃ x3 : (RV), (plOK x x3 ∧ (0 : Nat) < x3.pkn ∧ x3.num = Int.toNat (x2.num : Int)) ∧ 
 (x.m = x.m) ∧ (relLe x.rel x.rel) ∧ 
 (x.rb = x.rb) ∧ 
 ((x2.off : Int) = (x3.off : Int)) ∧ 
 (x.sb = x.sb ∧ Off.lit 0 = Off.lit 0) ∧ 
 (Value.nilIface = Value.nilIface) ∧ (x.bb = x.bb ∧ Off.lit 0 = Off.lit 0) ∧ 
 ((x2.bits : Int) = (x3.bits : Int)) ∧ 
 ((x2.num : Int) = (x3.num : Int)) ∧ 
 (x.big = x.big) ∧ 
 (x2.pk = x3.pk ∧ x2.pkn = x3.pkn) ∧ 
 (x2.dis = x3.dis) ∧ 
 ((x2.fed : Int) = (x3.fed : Int)) ∧ 
 (Value.pointer none = Value.pointer none) ∧ (x.bb = x.bb ∧ Off.lit 0 = Off.lit 0) ∧ 
 (Value.pointer none = Value.pointer none) ∧ (x.sb = x.sb) ∧ 
 (x.vs = x.vs ∧ ints x.bs = ints x.bs) ∧ 
 ((x2.off : Int) = (x3.off : Int)) ∧ 
 (x2.prev = x3.prev) ∧ 
 (x.bb = x.bb) ∧ 
 (x.sb = x.sb ∧ Off.lit 0 = Off.lit 0) ∧ 
 ((x2.pos : Int) = (x3.pos : Int)) ∧ 
 (x2.bv = x3.bv ∧ x2.bn = x3.bn) ∧ 
 ((512 : Nat) = (512 : Nat) ∧ x2.arr = x3.arr) ∧ 
 (True))) ∧
 (∀ x3 : (RV), ((plOK x x3 ∧ (0 : Nat) < x3.pkn ∧ x3.num = Int.toNat (x2.num : Int)) → 
 (x.rb = x.rb) ∧ 
 (inI64 (IntKind.wrap IntKind.u64 ((64 : Int) - (x3.num : Int)))) ∧ 
 ((8 : Int) ≠ (0 : Int)) ∧ 
 (x.rb = x.rb) ∧ 
 Br (decide ((x3.pkn : Int) ≥ (8 : Int)))
 (((x.rb = x.rb) ∧ 
 ∀ x4 : (Nat), ∃ x5 : (Nat × Nat), (x3.pk = Value.slice (some (Addr.mk x.bb ((3 : Nat) + x5.1 * (1 : Nat)) none)) x3.pkn x5.2) ∧ 
 (inRange (7 : Int) x3.pkn) ∧ 
 (x.bb = x.bb) ∧ (x5.1 + (7 : Nat) < List.length x3.arr) ∧ 
 ∀ x6 : (Int), ((x3.arr[x5.1 + (7 : Nat)]? = some x6) → 
 ∃ x7 : (Nat × Nat), (x3.pk = Value.slice (some (Addr.mk x.bb ((3 : Nat) + x7.1 * (1 : Nat)) none)) x3.pkn x7.2) ∧ 
 (inRange (0 : Int) x3.pkn) ∧ 
 (x.bb = x.bb) ∧ (x7.1 + (0 : Nat) < List.length x3.arr) ∧ 
 ∀ x8 : (Int), ((x3.arr[x7.1 + (0 : Nat)]? = some x8) → 
 ∃ x9 : (Nat × Nat), (x3.pk = Value.slice (some (Addr.mk x.bb ((3 : Nat) + x9.1 * (1 : Nat)) none)) x3.pkn x9.2) ∧ 
 (inRange (1 : Int) x3.pkn) ∧ 
 (x.bb = x.bb) ∧ (x9.1 + (1 : Nat) < List.length x3.arr) ∧ 
 ∀ x10 : (Int), ((x3.arr[x9.1 + (1 : Nat)]? = some x10) → 
 ((0 : Int) ≤ (8 : Int)) ∧ 
 ∃ x11 : (Nat × Nat), (x3.pk = Value.slice (some (Addr.mk x.bb ((3 : Nat) + x11.1 * (1 : Nat)) none)) x3.pkn x11.2) ∧ 
 (inRange (2 : Int) x3.pkn) ∧ 
 (x.bb = x.bb) ∧ (x11.1 + (2 : Nat) < List.length x3.arr) ∧ 
 ∀ x12 : (Int), ((x3.arr[x11.1 + (2 : Nat)]? = some x12) → 
 ((0 : Int) ≤ (16 : Int)) ∧ 
 ∃ x13 : (Nat × Nat), (x3.pk = Value.slice (some (Addr.mk x.bb ((3 : Nat) + x13.1 * (1 : Nat)) none)) x3.pkn x13.2) ∧ 
 (inRange (3 : Int) x3.pkn) ∧ 
 (x.bb = x.bb) ∧ (x13.1 + (3 : Nat) < List.length x3.arr) ∧ 
 ∀ x14 : (Int), ((x3.arr[x13.1 + (3 : Nat)]? = some x14) → 
 ((0 : Int) ≤ (24 : Int)) ∧ 
 ∃ x15 : (Nat × Nat), (x3.pk = Value.slice (some (Addr.mk x.bb ((3 : Nat) + x15.1 * (1 : Nat)) none)) x3.pkn x15.2) ∧ 
 (inRange (4 : Int) x3.pkn) ∧ 
 (x.bb = x.bb) ∧ (x15.1 + (4 : Nat) < List.length x3.arr) ∧ 
 ∀ x16 : (Int), ((x3.arr[x15.1 + (4 : Nat)]? = some x16) → 
 ((0 : Int) ≤ (32 : Int)) ∧ 
 ∃ x17 : (Nat × Nat), (x3.pk = Value.slice (some (Addr.mk x.bb ((3 : Nat) + x17.1 * (1 : Nat)) none)) x3.pkn x17.2) ∧ 
 (inRange (5 : Int) x3.pkn) ∧ 
 (x.bb = x.bb) ∧ (x17.1 + (5 : Nat) < List.length x3.arr) ∧ 
 ∀ x18 : (Int), ((x3.arr[x17.1 + (5 : Nat)]? = some x18) → 
 ((0 : Int) ≤ (40 : Int)) ∧ 
 ∃ x19 : (Nat × Nat), (x3.pk = Value.slice (some (Addr.mk x.bb ((3 : Nat) + x19.1 * (1 : Nat)) none)) x3.pkn x19.2) ∧ 
 (inRange (6 : Int) x3.pkn) ∧ 
 (x.bb = x.bb) ∧ (x19.1 + (6 : Nat) < List.length x3.arr) ∧ 
 ∀ x20 : (Int), ((x3.arr[x19.1 + (6 : Nat)]? = some x20) → 
 ((0 : Int) ≤ (48 : Int)) ∧ 
 ∃ x21 : (Nat × Nat), (x3.pk = Value.slice (some (Addr.mk x.bb ((3 : Nat) + x21.1 * (1 : Nat)) none)) x3.pkn x21.2) ∧ 
 (inRange (7 : Int) x3.pkn) ∧ 
 (x.bb = x.bb) ∧ (x21.1 + (7 : Nat) < List.length x3.arr) ∧ 
 ∀ x22 : (Int), ((x3.arr[x21.1 + (7 : Nat)]? = some x22) → 
 ((0 : Int) ≤ (56 : Int)) ∧ 
 ∃ x23 : (Unit), (True) ∧ 
 (bitI BinOp.or IntKind.u64 (bitI BinOp.or IntKind.u64 (bitI BinOp.or IntKind.u64 (bitI BinOp.or IntKind.u64 (bitI BinOp.or IntKind.u64 (bitI BinOp.or IntKind.u64 (bitI BinOp.or IntKind.u64 (IntKind.wrap IntKind.u64 x8) (shlI IntKind.u64 (IntKind.wrap IntKind.u64 x10) (8 : Int))) (shlI IntKind.u64 (IntKind.wrap IntKind.u64 x12) (16 : Int))) (shlI IntKind.u64 (IntKind.wrap IntKind.u64 x14) (24 : Int))) (shlI IntKind.u64 (IntKind.wrap IntKind.u64 x16) (32 : Int))) (shlI IntKind.u64 (IntKind.wrap IntKind.u64 x18) (40 : Int))) (shlI IntKind.u64 (IntKind.wrap IntKind.u64 x20) (48 : Int))) (shlI IntKind.u64 (IntKind.wrap IntKind.u64 x22) (56 : Int)) = (↑(wd8 false x.bs ((RS.P x + Int.toNat (x3.num : Int)) / (8 : Nat))) : Int)) ∧ 
 (x.m = x.m) ∧ (relLe x.rel x.rel) ∧ 
 (x.rb = x.rb) ∧ ((x3.off : Int) = (x3.off : Int)) ∧ (x.sb = x.sb ∧ Off.lit 0 = Off.lit 0) ∧ 
 (Value.nilIface = Value.nilIface) ∧ (x.bb = x.bb ∧ Off.lit 0 = Off.lit 0) ∧ 
 ((x3.bits : Int) = (x3.bits : Int)) ∧ ((x3.num : Int) = (x3.num : Int)) ∧ (x.big = x.big) ∧ (x3.pk = x3.pk ∧ x3.pkn = x3.pkn) ∧ 
 (x3.dis = x3.dis) ∧ ((x3.fed : Int) = (x3.fed : Int)) ∧ (Value.pointer none = Value.pointer none) ∧ (x.bb = x.bb ∧ Off.lit 0 = Off.lit 0) ∧ 
 (Value.pointer none = Value.pointer none) ∧ (x.sb = x.sb) ∧ (x.vs = x.vs ∧ ints x.bs = ints x.bs) ∧ 
 ((x3.off : Int) = (x3.off : Int)) ∧ (x3.prev = x3.prev) ∧ (x.bb = x.bb) ∧ (x.sb = x.sb ∧ Off.lit 0 = Off.lit 0) ∧ 
 ((x3.pos : Int) = (x3.pos : Int)) ∧ (x3.bv = x3.bv ∧ x3.bn = x3.bn) ∧ 
 ((512 : Nat) = (512 : Nat) ∧ x3.arr = x3.arr) ∧ 
 (True))))))))))) ∧
 (∀ x4 : (Unit), ((True) → 
 ((x.rb = x.rb) ∧ 
 Br x.big
 (((0 : Int) ≤ (1 : Int)) ∧ 
 ((0 : Int) ≤ (1 : Int)) ∧ 
 ((0 : Int) ≤ (2 : Int)) ∧ 
 ((0 : Int) ≤ (2 : Int)) ∧ 
 ((0 : Int) ≤ (4 : Int)) ∧ 
 ((0 : Int) ≤ (4 : Int)) ∧ 
 ∃ x5 : (Unit), (True) ∧ 
 (bitI BinOp.or IntKind.u64 (shrI IntKind.u64 (bitI BinOp.and IntKind.u64 (bitI BinOp.or IntKind.u64 (shrI IntKind.u64 (bitI BinOp.and IntKind.u64 (bitI BinOp.or IntKind.u64 (shrI IntKind.u64 (bitI BinOp.and IntKind.u64 (↑(wd8 false x.bs ((RS.P x + Int.toNat (x3.num : Int)) / (8 : Nat))) : Int) (12297829382473034410 : Int)) (1 : Int)) (shlI IntKind.u64 (bitI BinOp.and IntKind.u64 (↑(wd8 false x.bs ((RS.P x + Int.toNat (x3.num : Int)) / (8 : Nat))) : Int) (6148914691236517205 : Int)) (1 : Int))) (14757395258967641292 : Int)) (2 : Int)) (shlI IntKind.u64 (bitI BinOp.and IntKind.u64 (bitI BinOp.or IntKind.u64 (shrI IntKind.u64 (bitI BinOp.and IntKind.u64 (↑(wd8 false x.bs ((RS.P x + Int.toNat (x3.num : Int)) / (8 : Nat))) : Int) (12297829382473034410 : Int)) (1 : Int)) (shlI IntKind.u64 (bitI BinOp.and IntKind.u64 (↑(wd8 false x.bs ((RS.P x + Int.toNat (x3.num : Int)) / (8 : Nat))) : Int) (6148914691236517205 : Int)) (1 : Int))) (3689348814741910323 : Int)) (2 : Int))) (17361641481138401520 : Int)) (4 : Int)) (shlI IntKind.u64 (bitI BinOp.and IntKind.u64 (bitI BinOp.or IntKind.u64 (shrI IntKind.u64 (bitI BinOp.and IntKind.u64 (bitI BinOp.or IntKind.u64 (shrI IntKind.u64 (bitI BinOp.and IntKind.u64 (↑(wd8 false x.bs ((RS.P x + Int.toNat (x3.num : Int)) / (8 : Nat))) : Int) (12297829382473034410 : Int)) (1 : Int)) (shlI IntKind.u64 (bitI BinOp.and IntKind.u64 (↑(wd8 false x.bs ((RS.P x + Int.toNat (x3.num : Int)) / (8 : Nat))) : Int) (6148914691236517205 : Int)) (1 : Int))) (14757395258967641292 : Int)) (2 : Int)) (shlI IntKind.u64 (bitI BinOp.and IntKind.u64 (bitI BinOp.or IntKind.u64 (shrI IntKind.u64 (bitI BinOp.and IntKind.u64 (↑(wd8 false x.bs ((RS.P x + Int.toNat (x3.num : Int)) / (8 : Nat))) : Int) (12297829382473034410 : Int)) (1 : Int)) (shlI IntKind.u64 (bitI BinOp.and IntKind.u64 (↑(wd8 false x.bs ((RS.P x + Int.toNat (x3.num : Int)) / (8 : Nat))) : Int) (6148914691236517205 : Int)) (1 : Int))) (3689348814741910323 : Int)) (2 : Int))) (1085102592571150095 : Int)) (4 : Int)) = (↑(wd8 x.big x.bs ((RS.P x + Int.toNat (x3.num : Int)) / (8 : Nat))) : Int)) ∧ 
 (x.m = x.m) ∧ (relLe x.rel x.rel) ∧ 
 (x.rb = x.rb) ∧ ((x3.off : Int) = (x3.off : Int)) ∧ (x.sb = x.sb ∧ Off.lit 0 = Off.lit 0) ∧ 
 (Value.nilIface = Value.nilIface) ∧ (x.bb = x.bb ∧ Off.lit 0 = Off.lit 0) ∧ 
 ((x3.bits : Int) = (x3.bits : Int)) ∧ ((x3.num : Int) = (x3.num : Int)) ∧ (x.big = x.big) ∧ (x3.pk = x3.pk ∧ x3.pkn = x3.pkn) ∧ 
 (x3.dis = x3.dis) ∧ ((x3.fed : Int) = (x3.fed : Int)) ∧ (Value.pointer none = Value.pointer none) ∧ (x.bb = x.bb ∧ Off.lit 0 = Off.lit 0) ∧ 
 (Value.pointer none = Value.pointer none) ∧ (x.sb = x.sb) ∧ (x.vs = x.vs ∧ ints x.bs = ints x.bs) ∧ 
 ((x3.off : Int) = (x3.off : Int)) ∧ (x3.prev = x3.prev) ∧ (x.bb = x.bb) ∧ (x.sb = x.sb ∧ Off.lit 0 = Off.lit 0) ∧ 
 ((x3.pos : Int) = (x3.pos : Int)) ∧ (x3.bv = x3.bv ∧ x3.bn = x3.bn) ∧ 
 ((512 : Nat) = (512 : Nat) ∧ x3.arr = x3.arr) ∧ 
 (True))
 (∃ x5 : (Unit), (True) ∧ 
 ((↑(wd8 false x.bs ((RS.P x + Int.toNat (x3.num : Int)) / (8 : Nat))) : Int) = (↑(wd8 x.big x.bs ((RS.P x + Int.toNat (x3.num : Int)) / (8 : Nat))) : Int)) ∧ 
 (x.m = x.m) ∧ (relLe x.rel x.rel) ∧ 
 (x.rb = x.rb) ∧ ((x3.off : Int) = (x3.off : Int)) ∧ (x.sb = x.sb ∧ Off.lit 0 = Off.lit 0) ∧ 
 (Value.nilIface = Value.nilIface) ∧ (x.bb = x.bb ∧ Off.lit 0 = Off.lit 0) ∧ 
 ((x3.bits : Int) = (x3.bits : Int)) ∧ ((x3.num : Int) = (x3.num : Int)) ∧ (x.big = x.big) ∧ (x3.pk = x3.pk ∧ x3.pkn = x3.pkn) ∧ 
 (x3.dis = x3.dis) ∧ ((x3.fed : Int) = (x3.fed : Int)) ∧ (Value.pointer none = Value.pointer none) ∧ (x.bb = x.bb ∧ Off.lit 0 = Off.lit 0) ∧ 
 (Value.pointer none = Value.pointer none) ∧ (x.sb = x.sb) ∧ (x.vs = x.vs ∧ ints x.bs = ints x.bs) ∧ 
 ((x3.off : Int) = (x3.off : Int)) ∧ (x3.prev = x3.prev) ∧ (x.bb = x.bb) ∧ (x.sb = x.sb ∧ Off.lit 0 = Off.lit 0) ∧ 
 ((x3.pos : Int) = (x3.pos : Int)) ∧ (x3.bv = x3.bv ∧ x3.bn = x3.bn) ∧ 
 ((512 : Nat) = (512 : Nat) ∧ x3.arr = x3.arr) ∧ 
 (True))) ∧
 (∀ x5 : (Unit), ((True) → 
 (x.rb = x.rb) ∧ 
 (x.rb = x.rb) ∧ 
 ((0 : Int) ≤ (x3.num : Int)) ∧ 
 (x.rb = x.rb) ∧ 
 (x.rb = x.rb) ∧ 
 (inI64 (IntKind.wrap IntKind.i64 (Int.tdiv (IntKind.wrap IntKind.u64 ((64 : Int) - (x3.num : Int))) (8 : Int)) * (8 : Int))) ∧ 
 (x.rb = x.rb) ∧ 
 (x.rb = x.rb) ∧ 
 ((0 : Int) ≤ IntKind.wrap IntKind.i64 (Int.tdiv (IntKind.wrap IntKind.u64 ((64 : Int) - (x3.num : Int))) (8 : Int)) ∧ IntKind.wrap IntKind.i64 (Int.tdiv (IntKind.wrap IntKind.u64 ((64 : Int) - (x3.num : Int))) (8 : Int)) ≤ (x3.pkn : Int) ∧ (x3.pkn : Int) ≤ (↑(capVal x3.pk) : Int)) ∧ 
 (x.rb = x.rb) ∧ 
 ∃ x6 : (RV), (plOK x x6 ∧ nb ≤ x6.num) ∧ 
 (x.m = x.m) ∧ (relLe x.rel x.rel) ∧ 
 (x.rb = x.rb) ∧ 
 ((x3.off : Int) = (x6.off : Int)) ∧ 
 (x.sb = x.sb ∧ Off.lit 0 = Off.lit 0) ∧ 
 (Value.nilIface = Value.nilIface) ∧ (x.bb = x.bb ∧ Off.lit 0 = Off.lit 0) ∧ 
 (bitI BinOp.or IntKind.u64 (x3.bits : Int) (shlI IntKind.u64 (↑(wd8 x.big x.bs ((RS.P x + Int.toNat (x3.num : Int)) / (8 : Nat))) : Int) (x3.num : Int)) = (x6.bits : Int)) ∧ 
 (IntKind.wrap IntKind.u64 ((x3.num : Int) + IntKind.wrap IntKind.u64 (IntKind.wrap IntKind.i64 (Int.tdiv (IntKind.wrap IntKind.u64 ((64 : Int) - (x3.num : Int))) (8 : Int)) * (8 : Int))) = (x6.num : Int)) ∧ 
 (x.big = x.big) ∧ 
 (sliceVal x3.pk (Int.toNat (IntKind.wrap IntKind.i64 (Int.tdiv (IntKind.wrap IntKind.u64 ((64 : Int) - (x3.num : Int))) (8 : Int)))) (Int.toNat (x3.pkn : Int)) 1 = x6.pk ∧ Int.toNat (x3.pkn : Int) - Int.toNat (IntKind.wrap IntKind.i64 (Int.tdiv (IntKind.wrap IntKind.u64 ((64 : Int) - (x3.num : Int))) (8 : Int))) = x6.pkn) ∧ 
 (x3.dis = x6.dis) ∧ 
 ((x3.fed : Int) = (x6.fed : Int)) ∧ 
 (Value.pointer none = Value.pointer none) ∧ (x.bb = x.bb ∧ Off.lit 0 = Off.lit 0) ∧ 
 (Value.pointer none = Value.pointer none) ∧ (x.sb = x.sb) ∧ 
 (x.vs = x.vs ∧ ints x.bs = ints x.bs) ∧ 
 ((x3.off : Int) = (x6.off : Int)) ∧ 
 (x3.prev = x6.prev) ∧ 
 (x.bb = x.bb) ∧ 
 (x.sb = x.sb ∧ Off.lit 0 = Off.lit 0) ∧ 
 ((x3.pos : Int) = (x6.pos : Int)) ∧ 
 (x3.bv = x6.bv ∧ x3.bn = x6.bn) ∧ 
 ((512 : Nat) = (512 : Nat) ∧ x3.arr = x6.arr) ∧ 
 (True))))))
 (((x.rb = x.rb) ∧ 
 Br (decide (IntKind.wrap IntKind.i64 (Int.tdiv (IntKind.wrap IntKind.u64 ((64 : Int) - (x3.num : Int))) (8 : Int)) > (x3.pkn : Int)))
 ((x.rb = x.rb) ∧ 
 ∃ x4 : (Unit), (True) ∧ 
 ((x3.pkn : Int) = (↑(min (((64 : Nat) - Int.toNat (x3.num : Int)) / (8 : Nat)) x3.pkn) : Int)) ∧ 
 (x.m = x.m) ∧ (relLe x.rel x.rel) ∧ 
 (x.rb = x.rb) ∧ ((x3.off : Int) = (x3.off : Int)) ∧ (x.sb = x.sb ∧ Off.lit 0 = Off.lit 0) ∧ 
 (Value.nilIface = Value.nilIface) ∧ (x.bb = x.bb ∧ Off.lit 0 = Off.lit 0) ∧ 
 ((x3.bits : Int) = (x3.bits : Int)) ∧ ((x3.num : Int) = (x3.num : Int)) ∧ (x.big = x.big) ∧ (x3.pk = x3.pk ∧ x3.pkn = x3.pkn) ∧ 
 (x3.dis = x3.dis) ∧ ((x3.fed : Int) = (x3.fed : Int)) ∧ (Value.pointer none = Value.pointer none) ∧ (x.bb = x.bb ∧ Off.lit 0 = Off.lit 0) ∧ 
 (Value.pointer none = Value.pointer none) ∧ (x.sb = x.sb) ∧ (x.vs = x.vs ∧ ints x.bs = ints x.bs) ∧ 
 ((x3.off : Int) = (x3.off : Int)) ∧ (x3.prev = x3.prev) ∧ (x.bb = x.bb) ∧ (x.sb = x.sb ∧ Off.lit 0 = Off.lit 0) ∧ 
 ((x3.pos : Int) = (x3.pos : Int)) ∧ (x3.bv = x3.bv ∧ x3.bn = x3.bn) ∧ 
 ((512 : Nat) = (512 : Nat) ∧ x3.arr = x3.arr) ∧ 
 (True))
 (∃ x4 : (Unit), (True) ∧ 
 (IntKind.wrap IntKind.i64 (Int.tdiv (IntKind.wrap IntKind.u64 ((64 : Int) - (x3.num : Int))) (8 : Int)) = (↑(min (((64 : Nat) - Int.toNat (x3.num : Int)) / (8 : Nat)) x3.pkn) : Int)) ∧ 
 (x.m = x.m) ∧ (relLe x.rel x.rel) ∧ 
 (x.rb = x.rb) ∧ ((x3.off : Int) = (x3.off : Int)) ∧ (x.sb = x.sb ∧ Off.lit 0 = Off.lit 0) ∧ 
 (Value.nilIface = Value.nilIface) ∧ (x.bb = x.bb ∧ Off.lit 0 = Off.lit 0) ∧ 
 ((x3.bits : Int) = (x3.bits : Int)) ∧ ((x3.num : Int) = (x3.num : Int)) ∧ (x.big = x.big) ∧ (x3.pk = x3.pk ∧ x3.pkn = x3.pkn) ∧ 
 (x3.dis = x3.dis) ∧ ((x3.fed : Int) = (x3.fed : Int)) ∧ (Value.pointer none = Value.pointer none) ∧ (x.bb = x.bb ∧ Off.lit 0 = Off.lit 0) ∧ 
 (Value.pointer none = Value.pointer none) ∧ (x.sb = x.sb) ∧ (x.vs = x.vs ∧ ints x.bs = ints x.bs) ∧ 
 ((x3.off : Int) = (x3.off : Int)) ∧ (x3.prev = x3.prev) ∧ (x.bb = x.bb) ∧ (x.sb = x.sb ∧ Off.lit 0 = Off.lit 0) ∧ 
 ((x3.pos : Int) = (x3.pos : Int)) ∧ (x3.bv = x3.bv ∧ x3.bn = x3.bn) ∧ 
 ((512 : Nat) = (512 : Nat) ∧ x3.arr = x3.arr) ∧ 
 (True))) ∧
 (∀ x4 : (Unit), ((True) → 
 (x.rb = x.rb) ∧ 
 ((0 : Int) ≤ (0 : Int) ∧ (0 : Int) ≤ (↑(min (((64 : Nat) - Int.toNat (x3.num : Int)) / (8 : Nat)) x3.pkn) : Int) ∧ (↑(min (((64 : Nat) - Int.toNat (x3.num : Int)) / (8 : Nat)) x3.pkn) : Int) ≤ (↑(capVal x3.pk) : Int)) ∧ 
 ∃ x5 : (Nat × Nat), (x5.1 ≤ Int.toNat (↑(min (((64 : Nat) - Int.toNat (x3.num : Int)) / (8 : Nat)) x3.pkn) : Int) ∧ bkOK (RS.W x) x5.2 (Int.toNat (x3.num : Int) + (8 : Nat) * x5.1)) ∧ 
 ((0 : Int) = (x5.1 : Int)) ∧ 
 (x.m = x.m) ∧ (relLe x.rel x.rel) ∧ 
 (x.rb = x.rb) ∧ 
 ((x3.off : Int) = (↑(Int.toNat (x3.off : Int)) : Int)) ∧ 
 (x.sb = x.sb ∧ Off.lit 0 = Off.lit 0) ∧ 
 (Value.nilIface = Value.nilIface) ∧ (x.bb = x.bb ∧ Off.lit 0 = Off.lit 0) ∧ 
 ((x3.bits : Int) = (x5.2 : Int)) ∧ 
 ((x3.num : Int) = (↑(Int.toNat (x3.num : Int) + (8 : Nat) * x5.1) : Int)) ∧ 
 (x.big = x.big) ∧ 
 (x3.pk = x3.pk ∧ x3.pkn = x3.pkn) ∧ 
 (x3.dis = x3.dis) ∧ 
 ((x3.fed : Int) = (↑(Int.toNat (x3.fed : Int)) : Int)) ∧ 
 (Value.pointer none = Value.pointer none) ∧ (x.bb = x.bb ∧ Off.lit 0 = Off.lit 0) ∧ 
 (Value.pointer none = Value.pointer none) ∧ (x.sb = x.sb) ∧ (x.vs = x.vs ∧ ints x.bs = ints x.bs) ∧ 
 ((x3.off : Int) = (x3.off : Int)) ∧ (x3.prev = x3.prev) ∧ (x.bb = x.bb) ∧ (x.sb = x.sb ∧ Off.lit 0 = Off.lit 0) ∧ 
 ((x3.pos : Int) = (x3.pos : Int)) ∧ (x3.bv = x3.bv ∧ x3.bn = x3.bn) ∧ 
 ((512 : Nat) = (512 : Nat) ∧ x3.arr = x3.arr) ∧ 
 ∀ x6 : (Nat × Nat), ((x6.1 ≤ Int.toNat (↑(min (((64 : Nat) - Int.toNat (x3.num : Int)) / (8 : Nat)) x3.pkn) : Int) ∧ bkOK (RS.W x) x6.2 (Int.toNat (x3.num : Int) + (8 : Nat) * x6.1)) → 
 Br (decide ((x6.1 : Int) < (↑(Int.toNat (↑(min (((64 : Nat) - Int.toNat (x3.num : Int)) / (8 : Nat)) x3.pkn) : Int) - (0 : Nat)) : Int)))
 (∃ x7 : (Nat × Nat), (sliceVal x3.pk 0 (Int.toNat (↑(min (((64 : Nat) - Int.toNat (x3.num : Int)) / (8 : Nat)) x3.pkn) : Int)) 1 = Value.slice (some (Addr.mk x.bb ((3 : Nat) + x7.1 * (1 : Nat)) none)) (Int.toNat (↑(min (((64 : Nat) - Int.toNat (x3.num : Int)) / (8 : Nat)) x3.pkn) : Int) - (0 : Nat)) x7.2) ∧ 
 (inRange (x6.1 : Int) (Int.toNat (↑(min (((64 : Nat) - Int.toNat (x3.num : Int)) / (8 : Nat)) x3.pkn) : Int) - (0 : Nat))) ∧ 
 (x.bb = x.bb) ∧ (x7.1 + Int.toNat (x6.1 : Int) < List.length x3.arr) ∧ 
 ∀ x8 : (Int), ((x3.arr[x7.1 + Int.toNat (x6.1 : Int)]? = some x8) → 
 (x.rb = x.rb) ∧ 
 Br x.big
 (∀ x9 : (Nat → Option Obj), (Int.toNat x8 < (256 : Nat)) ∧ 
 (x8 = (↑(Int.toNat x8) : Int)) ∧ 
 (x9 = x9) ∧ 
 (relLe x.rel x.rel) ∧ 
 ∀ x10 : (Unit), ((True) → 
 (x9 = x9) ∧ 
 (x.rb = x.rb) ∧ 
 (x.rb = x.rb) ∧ 
 ((0 : Int) ≤ (↑(Int.toNat (x3.num : Int) + (8 : Nat) * x6.1) : Int)) ∧ 
 (x.rb = x.rb) ∧ 
 (x.rb = x.rb) ∧ 
 (x.rb = x.rb) ∧ 
 (inI64 ((x6.1 : Int) + (1 : Int))) ∧ 
 ∃ x11 : (Nat × Nat), ((x11.1 ≤ Int.toNat (↑(min (((64 : Nat) - Int.toNat (x3.num : Int)) / (8 : Nat)) x3.pkn) : Int) ∧ bkOK (RS.W x) x11.2 (Int.toNat (x3.num : Int) + (8 : Nat) * x11.1)) ∧ Int.toNat (↑(min (((64 : Nat) - Int.toNat (x3.num : Int)) / (8 : Nat)) x3.pkn) : Int) - x11.1 < Int.toNat (↑(min (((64 : Nat) - Int.toNat (x3.num : Int)) / (8 : Nat)) x3.pkn) : Int) - x6.1) ∧ 
 ((x6.1 : Int) + (1 : Int) = (x11.1 : Int)) ∧ 
 (x.m = x.m) ∧ (relLe x.rel x.rel) ∧ 
 (x.rb = x.rb) ∧ ((↑(Int.toNat (x3.off : Int)) : Int) = (↑(Int.toNat (x3.off : Int)) : Int)) ∧ (x.sb = x.sb ∧ Off.lit 0 = Off.lit 0) ∧ 
 (Value.nilIface = Value.nilIface) ∧ (x.bb = x.bb ∧ Off.lit 0 = Off.lit 0) ∧ 
 (bitI BinOp.or IntKind.u64 (x6.2 : Int) (shlI IntKind.u64 (IntKind.wrap IntKind.u64 (↑(numL (byteBits true (Int.toNat x8))) : Int)) (↑(Int.toNat (x3.num : Int) + (8 : Nat) * x6.1) : Int)) = (x11.2 : Int)) ∧ 
 (IntKind.wrap IntKind.u64 ((↑(Int.toNat (x3.num : Int) + (8 : Nat) * x6.1) : Int) + (8 : Int)) = (↑(Int.toNat (x3.num : Int) + (8 : Nat) * x11.1) : Int)) ∧ 
 (x.big = x.big) ∧ (x3.pk = x3.pk ∧ x3.pkn = x3.pkn) ∧ 
 (x3.dis = x3.dis) ∧ ((↑(Int.toNat (x3.fed : Int)) : Int) = (↑(Int.toNat (x3.fed : Int)) : Int)) ∧ (Value.pointer none = Value.pointer none) ∧ (x.bb = x.bb ∧ Off.lit 0 = Off.lit 0) ∧ 
 (Value.pointer none = Value.pointer none) ∧ (x.sb = x.sb) ∧ (x.vs = x.vs ∧ ints x.bs = ints x.bs) ∧ 
 ((x3.off : Int) = (x3.off : Int)) ∧ (x3.prev = x3.prev) ∧ (x.bb = x.bb) ∧ (x.sb = x.sb ∧ Off.lit 0 = Off.lit 0) ∧ 
 ((x3.pos : Int) = (x3.pos : Int)) ∧ (x3.bv = x3.bv ∧ x3.bn = x3.bn) ∧ 
 ((512 : Nat) = (512 : Nat) ∧ x3.arr = x3.arr) ∧ 
 (True)))
 ((x.rb = x.rb) ∧ 
 (x.rb = x.rb) ∧ 
 ((0 : Int) ≤ (↑(Int.toNat (x3.num : Int) + (8 : Nat) * x6.1) : Int)) ∧ 
 (x.rb = x.rb) ∧ 
 (x.rb = x.rb) ∧ 
 (x.rb = x.rb) ∧ 
 (inI64 ((x6.1 : Int) + (1 : Int))) ∧ 
 ∃ x9 : (Nat × Nat), ((x9.1 ≤ Int.toNat (↑(min (((64 : Nat) - Int.toNat (x3.num : Int)) / (8 : Nat)) x3.pkn) : Int) ∧ bkOK (RS.W x) x9.2 (Int.toNat (x3.num : Int) + (8 : Nat) * x9.1)) ∧ Int.toNat (↑(min (((64 : Nat) - Int.toNat (x3.num : Int)) / (8 : Nat)) x3.pkn) : Int) - x9.1 < Int.toNat (↑(min (((64 : Nat) - Int.toNat (x3.num : Int)) / (8 : Nat)) x3.pkn) : Int) - x6.1) ∧ 
 ((x6.1 : Int) + (1 : Int) = (x9.1 : Int)) ∧ 
 (x.m = x.m) ∧ (relLe x.rel x.rel) ∧ 
 (x.rb = x.rb) ∧ ((↑(Int.toNat (x3.off : Int)) : Int) = (↑(Int.toNat (x3.off : Int)) : Int)) ∧ (x.sb = x.sb ∧ Off.lit 0 = Off.lit 0) ∧ 
 (Value.nilIface = Value.nilIface) ∧ (x.bb = x.bb ∧ Off.lit 0 = Off.lit 0) ∧ 
 (bitI BinOp.or IntKind.u64 (x6.2 : Int) (shlI IntKind.u64 (IntKind.wrap IntKind.u64 x8) (↑(Int.toNat (x3.num : Int) + (8 : Nat) * x6.1) : Int)) = (x9.2 : Int)) ∧ 
 (IntKind.wrap IntKind.u64 ((↑(Int.toNat (x3.num : Int) + (8 : Nat) * x6.1) : Int) + (8 : Int)) = (↑(Int.toNat (x3.num : Int) + (8 : Nat) * x9.1) : Int)) ∧ 
 (x.big = x.big) ∧ (x3.pk = x3.pk ∧ x3.pkn = x3.pkn) ∧ 
 (x3.dis = x3.dis) ∧ ((↑(Int.toNat (x3.fed : Int)) : Int) = (↑(Int.toNat (x3.fed : Int)) : Int)) ∧ (Value.pointer none = Value.pointer none) ∧ (x.bb = x.bb ∧ Off.lit 0 = Off.lit 0) ∧ 
 (Value.pointer none = Value.pointer none) ∧ (x.sb = x.sb) ∧ (x.vs = x.vs ∧ ints x.bs = ints x.bs) ∧ 
 ((x3.off : Int) = (x3.off : Int)) ∧ (x3.prev = x3.prev) ∧ (x.bb = x.bb) ∧ (x.sb = x.sb ∧ Off.lit 0 = Off.lit 0) ∧ 
 ((x3.pos : Int) = (x3.pos : Int)) ∧ (x3.bv = x3.bv ∧ x3.bn = x3.bn) ∧ 
 ((512 : Nat) = (512 : Nat) ∧ x3.arr = x3.arr) ∧ 
 (True))))
 ((x.rb = x.rb) ∧ 
 ((0 : Int) ≤ (↑(min (((64 : Nat) - Int.toNat (x3.num : Int)) / (8 : Nat)) x3.pkn) : Int) ∧ (↑(min (((64 : Nat) - Int.toNat (x3.num : Int)) / (8 : Nat)) x3.pkn) : Int) ≤ (x3.pkn : Int) ∧ (x3.pkn : Int) ≤ (↑(capVal x3.pk) : Int)) ∧ 
 (x.rb = x.rb) ∧ 
 (x.rb = x.rb) ∧ 
 Br (decide ((↑(Int.toNat (x3.num : Int) + (8 : Nat) * x6.1) : Int) > (56 : Int)))
 (∃ x7 : (RV), (plOK x x7 ∧ nb ≤ x7.num) ∧ 
 (x.m = x.m) ∧ (relLe x.rel x.rel) ∧ 
 (x.rb = x.rb) ∧ 
 ((↑(Int.toNat (x3.off : Int)) : Int) = (x7.off : Int)) ∧ 
 (x.sb = x.sb ∧ Off.lit 0 = Off.lit 0) ∧ 
 (Value.nilIface = Value.nilIface) ∧ (x.bb = x.bb ∧ Off.lit 0 = Off.lit 0) ∧ 
 ((x6.2 : Int) = (x7.bits : Int)) ∧ 
 ((↑(Int.toNat (x3.num : Int) + (8 : Nat) * x6.1) : Int) = (x7.num : Int)) ∧ 
 (x.big = x.big) ∧ 
 (sliceVal x3.pk (Int.toNat (↑(min (((64 : Nat) - Int.toNat (x3.num : Int)) / (8 : Nat)) x3.pkn) : Int)) (Int.toNat (x3.pkn : Int)) 1 = x7.pk ∧ Int.toNat (x3.pkn : Int) - Int.toNat (↑(min (((64 : Nat) - Int.toNat (x3.num : Int)) / (8 : Nat)) x3.pkn) : Int) = x7.pkn) ∧ 
 (x3.dis = x7.dis) ∧ 
 ((↑(Int.toNat (x3.fed : Int)) : Int) = (x7.fed : Int)) ∧ 
 (Value.pointer none = Value.pointer none) ∧ (x.bb = x.bb ∧ Off.lit 0 = Off.lit 0) ∧ 
 (Value.pointer none = Value.pointer none) ∧ (x.sb = x.sb) ∧ 
 (x.vs = x.vs ∧ ints x.bs = ints x.bs) ∧ 
 ((x3.off : Int) = (x7.off : Int)) ∧ 
 (x3.prev = x7.prev) ∧ 
 (x.bb = x.bb) ∧ 
 (x.sb = x.sb ∧ Off.lit 0 = Off.lit 0) ∧ 
 ((x3.pos : Int) = (x7.pos : Int)) ∧ 
 (x3.bv = x7.bv ∧ x3.bn = x7.bn) ∧ 
 ((512 : Nat) = (512 : Nat) ∧ x3.arr = x7.arr) ∧ 
 (True))
 (∃ x7 : (RV), (plOK x x7 ∧ (64 : Nat) - x7.num < (64 : Nat) - x2.num) ∧ 
 (x.m = x.m) ∧ (relLe x.rel x.rel) ∧ 
 (x.rb = x.rb) ∧ 
 ((↑(Int.toNat (x3.off : Int)) : Int) = (x7.off : Int)) ∧ 
 (x.sb = x.sb ∧ Off.lit 0 = Off.lit 0) ∧ 
 (Value.nilIface = Value.nilIface) ∧ (x.bb = x.bb ∧ Off.lit 0 = Off.lit 0) ∧ 
 ((x6.2 : Int) = (x7.bits : Int)) ∧ 
 ((↑(Int.toNat (x3.num : Int) + (8 : Nat) * x6.1) : Int) = (x7.num : Int)) ∧ 
 (x.big = x.big) ∧ 
 (sliceVal x3.pk (Int.toNat (↑(min (((64 : Nat) - Int.toNat (x3.num : Int)) / (8 : Nat)) x3.pkn) : Int)) (Int.toNat (x3.pkn : Int)) 1 = x7.pk ∧ Int.toNat (x3.pkn : Int) - Int.toNat (↑(min (((64 : Nat) - Int.toNat (x3.num : Int)) / (8 : Nat)) x3.pkn) : Int) = x7.pkn) ∧ 
 (x3.dis = x7.dis) ∧ 
 ((↑(Int.toNat (x3.fed : Int)) : Int) = (x7.fed : Int)) ∧ 
 (Value.pointer none = Value.pointer none) ∧ (x.bb = x.bb ∧ Off.lit 0 = Off.lit 0) ∧ 
 (Value.pointer none = Value.pointer none) ∧ (x.sb = x.sb) ∧ 
 (x.vs = x.vs ∧ ints x.bs = ints x.bs) ∧ 
 ((x3.off : Int) = (x7.off : Int)) ∧ 
 (x3.prev = x7.prev) ∧ 
 (x.bb = x.bb) ∧ 
 (x.sb = x.sb ∧ Off.lit 0 = Off.lit 0) ∧ 
 ((x3.pos : Int) = (x7.pos : Int)) ∧ 
 (x3.bv = x7.bv ∧ x3.bn = x7.bn) ∧ 
 ((512 : Nat) = (512 : Nat) ∧ x3.arr = x7.arr) ∧ 
 (True))))))))))) ∧
 (∀ x1 : (RV), ((plOK x x1 ∧ nb ≤ x1.num) → 
 (x.rb = x.rb) ∧ 
 (x.rb = x.rb) ∧ 
 ((∃ x2 : (RV), (pulled x nb x2) ∧ 
 (Value.nilIface = Value.nilIface) ∧ (x.m = x.m) ∧ 
 (relLe x.rel x.rel) ∧ 
 (x.rb = x.rb) ∧ 
 ((x1.off : Int) = (x2.off : Int)) ∧ 
 (x.sb = x.sb ∧ Off.lit 0 = Off.lit 0) ∧ 
 (Value.nilIface = Value.nilIface) ∧ (x.bb = x.bb ∧ Off.lit 0 = Off.lit 0) ∧ 
 ((x1.bits : Int) = (x2.bits : Int)) ∧ 
 ((x1.num : Int) = (x2.num : Int)) ∧ 
 (x.big = x.big) ∧ 
 (x1.pk = x2.pk ∧ x1.pkn = x2.pkn) ∧ 
 (x1.dis = x2.dis) ∧ 
 ((x1.num : Int) = (x2.fed : Int)) ∧ 
 (Value.pointer none = Value.pointer none) ∧ (x.bb = x.bb ∧ Off.lit 0 = Off.lit 0) ∧ 
 (Value.pointer none = Value.pointer none) ∧ (x.sb = x.sb) ∧ 
 (x.vs = x.vs ∧ ints x.bs = ints x.bs) ∧ 
 ((x1.off : Int) = (x2.off : Int)) ∧ 
 (x1.prev = x2.prev) ∧ 
 (x.bb = x.bb) ∧ 
 (x.sb = x.sb ∧ Off.lit 0 = Off.lit 0) ∧ 
 ((x1.pos : Int) = (x2.pos : Int)) ∧ 
 (x1.bv = x2.bv ∧ x1.bn = x2.bn) ∧ 
 ((512 : Nat) = (512 : Nat) ∧ x1.arr = x2.arr) ∧ 
 (True)) ∨
 (∃ x2 : (RV), (dry x nb x2) ∧ 
 (Value.nilIface = errV (Gl.U G)) ∧ 
 (x.m = x.m) ∧ 
 (relLe x.rel x.rel) ∧ 
 (x.rb = x.rb) ∧ 
 ((x1.off : Int) = (x2.off : Int)) ∧ 
 (x.sb = x.sb ∧ Off.lit 0 = Off.lit 0) ∧ 
 (Value.nilIface = Value.nilIface) ∧ (x.bb = x.bb ∧ Off.lit 0 = Off.lit 0) ∧ 
 ((x1.bits : Int) = (x2.bits : Int)) ∧ 
 ((x1.num : Int) = (x2.num : Int)) ∧ 
 (x.big = x.big) ∧ 
 (x1.pk = x2.pk ∧ x1.pkn = x2.pkn) ∧ 
 (x1.dis = x2.dis) ∧ 
 ((x1.num : Int) = (x2.fed : Int)) ∧ 
 (Value.pointer none = Value.pointer none) ∧ (x.bb = x.bb ∧ Off.lit 0 = Off.lit 0) ∧ 
 (Value.pointer none = Value.pointer none) ∧ (x.sb = x.sb) ∧ 
 (x.vs = x.vs ∧ ints x.bs = ints x.bs) ∧ 
 ((x1.off : Int) = (x2.off : Int)) ∧ 
 (x1.prev = x2.prev) ∧ 
 (x.bb = x.bb) ∧ 
 (x.sb = x.sb ∧ Off.lit 0 = Off.lit 0) ∧ 
 ((x1.pos : Int) = (x2.pos : Int)) ∧ 
 (x1.bv = x2.bv ∧ x1.bn = x2.bn) ∧ 
 ((512 : Nat) = (512 : Nat) ∧ x1.arr = x2.arr) ∧ 
 (True)))))
noncomputable def law_c143 (G : Gl) (P : Nat) (x : RS) (nb : Nat) : VCT := fnx (CH G 4) (INH G 4 (b143 G) NA) (a143 x nb) Tryz.f143 ((c143 G P).args (x, nb)) ((c143 G P).H (x, nb)) (outK true 5 ((c143 G P).ret (x, nb))) ((c143 G P).pan (x, nb))
theorem eq_c143 (G : Gl) (P : Nat) (x : RS) (nb : Nat) : cond_c143 G P x nb = (law_c143 G P x nb).den := by kernel_rfl
theorem rb_of {x : RS} {v : RV} (h : rsL (x.put v)) (m : Fz) (prev : Int) : rbOK ⟨m, x.rel, x.bb, x.sb, v.pos, v.bv, v.bn, v.arr, x.vs, x.bs, v.off, prev⟩ where
  arr := h.arr
  pi := h.pos
  il := by have h1 : v.off ≤ (x.P + 7) / 8 := h.off; have h2 : x.P + v.num ≤ 8 * x.bs.length := h.end_; dsimp only; omega
  len := h.len
  view := h.bv
theorem ok_c143 (G : Gl) (P : Nat) (x : RS) (nb : Nat) (hx : rsOK x) (hn : nb ≤ 56) : cond_c143 G P x nb := by
  unfold cond_c143
  have e3 : ∀ l : List Nat, nats (ints l) = l := nats_ints
  have e0 := hx.l.bk.n
  have ef := hx.fed
  have ed := hx.dis
  have el := hx.l.len
  have ee := hx.l.end_
  have eo := hx.l.off
  have e1 : IntKind.u64.wrap ((x.fed : Int) - (x.num : Int)) = (x.fed : Int) - (x.num : Int) := by rw [wr64]; omega
  have ec := ceil8 ⟨nb, by omega⟩
  dsimp only at ec
  have ec1 : Int.tdiv ((8 * ((nb + 7) / 8) : Nat) : Int) 8 = (((nb + 7) / 8 : Nat) : Int) := by rw [Int.tdiv_eq_ediv_of_nonneg (by omega)]; omega
  have ec2 : IntKind.i64.wrap (((nb + 7) / 8 : Nat) : Int) = (((nb + 7) / 8 : Nat) : Int) := wrI (by omega) (by omega)
  simp only [e1, e3, ec, ec1, ec2, br_d, br_i, rel_self, true_and, and_true, inRange, inI64, Int.toNat_natCast]
  refine ⟨by omega, by omega, ⟨⟨x.off, x.bits, x.num, x.pk, x.pkn, x.dis + ((x.fed : Int) - x.num), x.fed, x.pos, x.bv, x.bn, x.arr, x.prev⟩, pl_enter hx, rfl, rfl, rfl, ⟨rfl, rfl⟩, rfl, rfl, rfl, rfl, rfl, ⟨rfl, rfl⟩, rfl, fun v hv => ⟨⟨fun hp0 => ⟨x.P, fun m => ⟨?_, fun _ _ => ⟨by omega, by decide, fun m => ⟨?_, fun y hy => ⟨fun h1 m => ⟨?_, fun z hz => ?_⟩, fun h1 => ?_⟩⟩, fun f hf m => ⟨⟨?_, hf.2.2.2.2⟩, fun y hy => ?_, fun y hy => ?_⟩⟩⟩⟩, fun hp0 => ?_⟩, fun w hw => ?_⟩⟩, fun v hv => .inl ⟨_, pulled_mk hv.1 hv.2, rfl, rfl, rfl, ⟨rfl, rfl⟩, rfl, rfl, rfl, rfl, rfl, ⟨rfl, rfl⟩, rfl⟩⟩
  · refine ⟨hv.l.bytes, hv.l.len, hv.l.bk.n, hv.l.al, hv.l.end_, hv.l.off, hv.l.pos, hv.l.arr, hv.l.pk, hv.l.bv, hv.l.cov, ?_, Nat.le_refl _, hv.l.bk.n⟩
    have := hv.dis
    dsimp only; omega
  · have h1 : v.off ≤ (x.P + 7) / 8 := hv.l.off
    have h2 : v.pos ≤ v.off := hv.l.pos
    have h3 : x.P + v.num ≤ 8 * x.bs.length := hv.l.end_
    exact ⟨hv.l.arr, by dsimp only; omega, by dsimp only; omega, hv.l.len, hv.l.bv⟩
  · have h3 : x.P + v.num ≤ 8 * x.bs.length := hv.l.end_
    exact ⟨hv.l.arr, Nat.le_refl _, by dsimp only; omega, hv.l.len, hy.2⟩
  · have h9 := vw_end hz.2
    exact ⟨⟨_, z.2⟩, ⟨fl_mk hv (by omega) (by have := hy.1; omega) hz.2 rfl rfl, rfl, by dsimp only; omega, Nat.le_refl _, by dsimp only; omega⟩, rfl, rfl, rfl, rfl, ⟨rfl, rfl⟩, rfl, rfl, rfl, rfl, rfl, ⟨rfl, rfl⟩, rfl⟩
  · exact ⟨⟨_, (nb + 7) / 8⟩, ⟨fl_mk hv (by omega) (by have := hy.1; omega) hy.2 rfl rfl, rfl, Nat.le_refl _, by dsimp only; omega, by dsimp only; omega⟩, rfl, rfl, rfl, rfl, ⟨rfl, rfl⟩, rfl, rfl, rfl, rfl, rfl, ⟨rfl, rfl⟩, rfl⟩
  · exact rb_of hf.1.l m _
  · obtain ⟨h1, h2, h3⟩ := fl_skip hf.1
    have h64 : f.1.num ≤ 64 := hf.1.l.bk.n
    have t1 : Int.tdiv (f.1.num : Int) 8 = ((f.1.num / 8 : Nat) : Int) := by rw [Int.tdiv_eq_ediv_of_nonneg (by omega)]; omega
    have t2 : IntKind.u64.wrap ((f.1.num / 8 : Nat) : Int) = ((f.1.num / 8 : Nat) : Int) := by rw [wr64]; omega
    simp only [t1, t2, Int.toNat_natCast]
    have hc := vw_cap hy.2.peek
    have key := pl_peek hf.1 (pn := f.2) (by omega) hy.2.arr hy.2.peek hy.2.view hy.2.more
    refine ⟨by decide, by omega, by omega, fun h4 => ⟨fun h5 => ⟨_, ⟨key, by dsimp only; omega⟩, rfl, rfl, rfl, ⟨rfl, rfl⟩, rfl, rfl, rfl, rfl, rfl, ⟨rfl, rfl⟩, rfl⟩, fun h5 => by omega⟩, fun h4 => ⟨_, ⟨key, by dsimp only; omega, hf.2.1⟩, rfl, rfl, rfl, ⟨rfl, rfl⟩, rfl, rfl, rfl, rfl, rfl, ⟨rfl, rfl⟩, rfl⟩⟩
  · obtain ⟨h1, h2, h3⟩ := fl_skip hf.1
    have h64 : f.1.num ≤ 64 := hf.1.l.bk.n
    have t1 : Int.tdiv (f.1.num : Int) 8 = ((f.1.num / 8 : Nat) : Int) := by rw [Int.tdiv_eq_ediv_of_nonneg (by omega)]; omega
    have t2 : IntKind.u64.wrap ((f.1.num / 8 : Nat) : Int) = ((f.1.num / 8 : Nat) : Int) := by rw [wr64]; omega
    simp only [t1, t2, Int.toNat_natCast]
    have hc := vw_cap hy.2.peek
    have key := pl_peek hf.1 (pn := x.bs.length - f.1.off) (by omega) hy.2.arr hy.2.peek hy.2.view hy.2.more
    have al : (x.P + f.1.num) % 8 = 0 := hf.1.l.al
    refine ⟨by decide, by omega, by omega, fun h4 => ⟨fun h5 => ⟨_, ⟨key, by dsimp only; omega⟩, rfl, rfl, rfl, ⟨rfl, rfl⟩, rfl, rfl, rfl, rfl, rfl, ⟨rfl, rfl⟩, rfl⟩, fun h5 => .inr ⟨_, dry_mk key hf.1.fed (by dsimp only; omega) (by dsimp only; omega), rfl, rfl, rfl, ⟨rfl, rfl⟩, rfl, rfl, rfl, rfl, rfl, ⟨rfl, rfl⟩, rfl⟩⟩, fun h4 => ⟨_, ⟨key, by dsimp only; omega, hf.2.1⟩, rfl, rfl, rfl, ⟨rfl, rfl⟩, rfl, rfl, rfl, rfl, rfl, ⟨rfl, rfl⟩, rfl⟩⟩
  · exact ⟨v, ⟨hv, by omega, rfl⟩, rfl, rfl, rfl, ⟨rfl, rfl⟩, rfl, rfl, rfl, rfl, rfl, ⟨rfl, rfl⟩, rfl⟩
  · obtain ⟨hw, hpos, hnum⟩ := hw
    have h64 : w.num ≤ 64 := hw.l.bk.n
    have hbk : bkOK x.W w.bits w.num := hw.l.bk
    have hvw : vw x.bb w.arr x.bs w.pk w.pkn ((x.P + w.num) / 8) := hw.l.pk
    have harr : w.arr.length = 512 := hw.l.arr
    have hend := vw_end hvw
    have hcap := vw_cap hvw
    have hlen := hw.l.len
    have hby : ∀ b ∈ x.bs, b < 256 := hw.l.bytes
    have hlen : x.bs.length ≤ 300 := hlen
    obtain ⟨lo, cap, hpk, hlo, hget⟩ := vw_get hvw hpos
    have hc256 : ∀ {j c : Nat}, x.bs[j]? = some c → c < 256 := fun h => hby _ (List.mem_of_getElem? h)
    have u1 : IntKind.u64.wrap (64 - (w.num : Int)) = ((64 - w.num : Nat) : Int) := by rw [wr64]; omega
    have u2 : Int.tdiv ((64 - w.num : Nat) : Int) 8 = (((64 - w.num) / 8 : Nat) : Int) := by rw [Int.tdiv_eq_ediv_of_nonneg (by omega)]; omega
    have u3 : IntKind.i64.wrap (((64 - w.num) / 8 : Nat) : Int) = (((64 - w.num) / 8 : Nat) : Int) := wrI (by omega) (by omega)
    have hW := W_at hw
    simp only [u1, u2, u3, Int.toNat_natCast, Nat.sub_zero]
    refine ⟨by omega, by decide, fun h8 => ⟨fun _ => ⟨(lo, cap), hpk, by omega, by dsimp only; omega, fun z h => ⟨(lo, cap), hpk, by omega, by dsimp only; omega, fun z0 h0 => ⟨(lo, cap), hpk, by omega, by dsimp only; omega, fun z1 h1 => ⟨by decide, (lo, cap), hpk, by omega, by dsimp only; omega, fun z2 h2 => ⟨by decide, (lo, cap), hpk, by omega, by dsimp only; omega, fun z3 h3 => ⟨by decide, (lo, cap), hpk, by omega, by dsimp only; omega, fun z4 h4 => ⟨by decide, (lo, cap), hpk, by omega, by dsimp only; omega, fun z5 h5 => ⟨by decide, (lo, cap), hpk, by omega, by dsimp only; omega, fun z6 h6 => ⟨by decide, (lo, cap), hpk, by omega, by dsimp only; omega, fun z7 h7 => ⟨by decide, (), ?_⟩⟩⟩⟩⟩⟩⟩⟩⟩⟩, fun _ _ => ⟨?_, fun _ _ => ⟨by omega, by omega, by omega, ⟨_, ⟨pl_more hw (n := (64 - w.num) / 8) (by omega) hpos (bk_more (V := wd8 x.big x.bs ((x.P + w.num) / 8)) (m := 64) (m' := 8 * ((64 - w.num) / 8)) hbk ?_ (by omega) (by omega)) rfl, by dsimp only; omega⟩, rfl, ?_, ?_, ⟨rfl, rfl⟩, rfl, rfl, rfl, rfl, rfl, ⟨rfl, rfl⟩, rfl⟩⟩⟩⟩, fun h8 => ⟨⟨fun h1 => ⟨(), ?_⟩, fun h1 => ⟨(), ?_⟩⟩, fun _ _ => ⟨by omega, ⟨(0, w.bits), ⟨Nat.zero_le _, hbk⟩, rfl, rfl, rfl, fun y hy => ⟨fun h1 => ?_, fun h1 => ⟨by omega, fun h2 => ?_, fun h2 => ?_⟩⟩⟩⟩⟩⟩
    · obtain ⟨c0, k0, rfl⟩ := hget 0 z0 (by omega) h0
      obtain ⟨c1, k1, rfl⟩ := hget 1 z1 (by omega) h1
      obtain ⟨c2, k2, rfl⟩ := hget 2 z2 (by omega) h2
      obtain ⟨c3, k3, rfl⟩ := hget 3 z3 (by omega) h3
      obtain ⟨c4, k4, rfl⟩ := hget 4 z4 (by omega) h4
      obtain ⟨c5, k5, rfl⟩ := hget 5 z5 (by omega) h5
      obtain ⟨c6, k6, rfl⟩ := hget 6 z6 (by omega) h6
      obtain ⟨c7, k7, rfl⟩ := hget 7 z7 (by omega) h7
      rw [word8 (hc256 k0) (hc256 k1) (hc256 k2) (hc256 k3) (hc256 k4) (hc256 k5) (hc256 k6) (hc256 k7)]
      unfold wd8
      rw [eight k0 k1 k2 k3 k4 k5 k6 k7]
    · have hl8 : ((x.bs.drop ((x.P + w.num) / 8)).take 8).length = 8 := by rw [List.length_take, List.length_drop]; omega
      have hwl : ∀ big, wd8 big x.bs ((x.P + w.num) / 8) < 2 ^ 64 := fun big => by
        have := stream_lt big ((x.bs.drop ((x.P + w.num) / 8)).take 8)
        rwa [hl8] at this
      refine br_mk (fun hb => ⟨by decide, by decide, by decide, by decide, by decide, by decide, (), ?_⟩) (fun hb => ⟨(), by rw [hb]⟩)
      have s1 := stage_run (hi := 12297829382473034410) (lo := 6148914691236517205) (s := 1) (hwl false) (by decide) (by decide) (by decide)
      have s2 := stage_run (u := stage (wd8 false x.bs ((x.P + w.num) / 8)) 12297829382473034410 6148914691236517205 1) (hi := 14757395258967641292) (lo := 3689348814741910323) (s := 2) (stage_lt (hwl false)) (by decide) (by decide) (by decide)
      have s3 := stage_run (u := stage (stage (wd8 false x.bs ((x.P + w.num) / 8)) 12297829382473034410 6148914691236517205 1) 14757395258967641292 3689348814741910323 2) (hi := 17361641481138401520) (lo := 1085102592571150095) (s := 4) (stage_lt (stage_lt (hwl false))) (by decide) (by decide) (by decide)
      rw [← s1] at s2
      rw [← s2] at s3
      refine s3.trans ?_
      rw [hb]
      exact congrArg _ (swap8 hl8)
    · rw [hW]
      exact wd8_mod x.big x.bs (by omega)
    · have hl8 : ((x.bs.drop ((x.P + w.num) / 8)).take 8).length = 8 := by rw [List.length_take, List.length_drop]; omega
      rw [shlN rfl, show min w.num IntKind.u64.bits = w.num by simp only [IntKind.bits]; omega]
      exact orN rfl hbk.lt (Nat.mod_lt _ (by decide))
    · rw [wr64, wr64]; dsimp only; omega
    · omega
    · omega
    · have hsl : sliceVal w.pk 0 (min ((64 - w.num) / 8) w.pkn) 1 = .slice (some ⟨x.bb, 3 + lo * 1, none⟩) (min ((64 - w.num) / 8) w.pkn) cap := by
        rw [hpk]; simp [sliceVal, Addr.add]
      refine ⟨(lo, cap), hsl, by omega, by dsimp only; omega, fun z hz => ?_⟩
      obtain ⟨c, hc, rfl⟩ := hget y.1 z (by omega) hz
      have h256 := hc256 hc
      have hyl := hy.2.n
      have al : (x.P + w.num) % 8 = 0 := hw.l.al
      have hV : numL (byteBits x.big c) = x.W / 2 ^ (w.num + 8 * y.1) % 2 ^ 8 := by
        rw [byte_mod x.big hc]
        unfold RS.W
        rw [Nat.div_div_eq_div_mul, ← Nat.pow_add]
        congr 3; omega
      have hbk2 := bk_more hy.2 hV (Nat.le_refl 8) (by omega)
      have hnum2 : w.num + 8 * y.1 + 8 = w.num + 8 * (y.1 + 1) := by omega
      rw [hnum2] at hbk2
      have hlt := numL_lt (byteBits_lt x.big c)
      rw [byteBits_len] at hlt
      have hrun : bitI BinOp.or IntKind.u64 (y.2 : Int) (shlI IntKind.u64 (IntKind.u64.wrap ((numL (byteBits x.big c) : Nat) : Int)) ((w.num + 8 * y.1 : Nat) : Int)) = ((y.2 ||| numL (byteBits x.big c) * 2 ^ (w.num + 8 * y.1) % 2 ^ 64 : Nat) : Int) := by
        rw [wrId rfl (by simp only [IntKind.bits]; omega), shlN rfl, show min (w.num + 8 * y.1) IntKind.u64.bits = w.num + 8 * y.1 by simp only [IntKind.bits]; omega]
        exact orN rfl hy.2.lt (Nat.mod_lt _ (by decide))
      have hadd : IntKind.u64.wrap (((w.num + 8 * y.1 : Nat) : Int) + 8) = ((w.num + 8 * (y.1 + 1) : Nat) : Int) := by rw [wr64]; omega
      simp only [Int.toNat_natCast]
      refine br_mk (fun hb => fun _ => ⟨h256, trivial, fun _ _ => ⟨by omega, by omega, (y.1 + 1, _), ⟨⟨by dsimp only; omega, hbk2⟩, by dsimp only; omega⟩, rfl, ?_, hadd⟩⟩) (fun hb => ⟨by omega, by omega, (y.1 + 1, _), ⟨⟨by dsimp only; omega, hbk2⟩, by dsimp only; omega⟩, rfl, ?_, hadd⟩)
      · rw [hb] at hrun ⊢; exact hrun
      · have hbn := byte_num ⟨c, h256⟩
        dsimp only at hbn
        rw [hb, hbn] at hrun ⊢; exact hrun
    · exact ⟨_, ⟨pl_more hw (n := min ((64 - w.num) / 8) w.pkn) (by omega) hpos hy.2 (by omega), by dsimp only; omega⟩, rfl, rfl, rfl, ⟨rfl, rfl⟩, rfl, rfl, rfl, rfl, rfl, ⟨rfl, rfl⟩, rfl⟩
    · exact ⟨_, ⟨pl_more hw (n := min ((64 - w.num) / 8) w.pkn) (by omega) hpos hy.2 (by omega), by dsimp only; omega⟩, rfl, rfl, rfl, ⟨rfl, rfl⟩, rfl, rfl, rfl, rfl, rfl, ⟨rfl, rfl⟩, rfl⟩
theorem b143_ok (G : Gl) : ∀ f pt, b143 G f = some pt → SpecOK (CC G) f pt := by
  intro f pt h
  unfold b143 at h
  split at h
  · cases h; exact exPT_ok 0 fun P => loc_ok (s80 G P) _
  · cases h; exact loc_ok (s164 G) _
  · cases h; exact loc_ok (s212 G) _
  · cases h; exact loc_ok (s213 G) _
  · cases h; exact loc_ok (s214 G) _
  · cases h
theorem s143 (G : Gl) (P : Nat) : SpecOK (CC G) 143 (c143 G P).pt := specH G 4 (b143_ok G) (fn := Tryz.f143) rfl NA (c143 G P) (fun x => a143 x.1 x.2) fun ⟨x, nb⟩ h => Met.of (eq_c143 G P x nb) (ok_c143 G P x nb h.1 h.2)
end Pc
/-
  The reader's small methods do what their contracts say.
-/
set_option linter.unusedVariables false
set_option maxRecDepth 100000
open Go Go.Vg Go.Proofs
namespace Pc
def cond_c103 (G : Gl) (P : Nat) (x : RS) (nb : Nat) : Prop :=
 ∃ x1 : (Nat), ∀ x2 : (Nat → Option Obj), (rsOK (RS.mk x2 x.rel x.rb x.sb x.bb x.vs (nats (ints x.bs)) x.big x1 (Int.toNat (x.off : Int)) (Int.toNat (x.bits : Int)) (Int.toNat (x.num : Int)) x.pk x.pkn x.dis (Int.toNat (x.fed : Int)) (Int.toNat (x.pos : Int)) x.bv x.bn x.arr x.prev) ∧ Int.toNat (↑nb : Int) ≤ (56 : Nat)) ∧ 
 (x.rb = x.rb ∧ Off.lit 0 = Off.lit 0) ∧ 
 ((↑nb : Int) = (↑(Int.toNat (↑nb : Int)) : Int)) ∧ 
 (x2 = x2) ∧ 
 (relLe x.rel x.rel) ∧ 
 (x.rb = x.rb) ∧ 
 ((x.off : Int) = (↑(Int.toNat (x.off : Int)) : Int)) ∧ 
 (x.sb = x.sb ∧ Off.lit 0 = Off.lit 0) ∧ 
 (Value.nilIface = Value.nilIface) ∧ (x.bb = x.bb ∧ Off.lit 0 = Off.lit 0) ∧ 
 ((x.bits : Int) = (↑(Int.toNat (x.bits : Int)) : Int)) ∧ 
 ((x.num : Int) = (↑(Int.toNat (x.num : Int)) : Int)) ∧ 
 (x.big = x.big) ∧ 
 (x.pk = x.pk ∧ x.pkn = x.pkn) ∧ 
 (x.dis = x.dis) ∧ 
 ((x.fed : Int) = (↑(Int.toNat (x.fed : Int)) : Int)) ∧ 
 (Value.pointer none = Value.pointer none) ∧ (x.bb = x.bb ∧ Off.lit 0 = Off.lit 0) ∧ 
 (Value.pointer none = Value.pointer none) ∧ (x.sb = x.sb) ∧ 
 (x.vs = x.vs ∧ ints x.bs = ints (nats (ints x.bs))) ∧ 
 ((x.off : Int) = (↑(Int.toNat (x.off : Int)) : Int)) ∧ 
 (x.prev = x.prev) ∧ 
 (x.bb = x.bb) ∧ 
 (x.sb = x.sb ∧ Off.lit 0 = Off.lit 0) ∧ 
 ((x.pos : Int) = (↑(Int.toNat (x.pos : Int)) : Int)) ∧ 
 (x.bv = x.bv ∧ x.bn = x.bn) ∧ 
 ((512 : Nat) = (512 : Nat) ∧ x.arr = x.arr) ∧ 
 (∀ x3 : (RV), (pulled (RS.mk x2 x.rel x.rb x.sb x.bb x.vs (nats (ints x.bs)) x.big x1 (Int.toNat (x.off : Int)) (Int.toNat (x.bits : Int)) (Int.toNat (x.num : Int)) x.pk x.pkn x.dis (Int.toNat (x.fed : Int)) (Int.toNat (x.pos : Int)) x.bv x.bn x.arr x.prev) (Int.toNat (↑nb : Int)) x3) → 
 (x2 = x2) ∧ 
 (x.rb = x.rb) ∧ 
 ((0 : Int) ≤ (↑nb : Int)) ∧ 
 (x.rb = x.rb) ∧ 
 ((0 : Int) ≤ (↑nb : Int)) ∧ 
 (x.rb = x.rb) ∧ 
 (x.rb = x.rb) ∧ 
 (x.rb = x.rb) ∧ 
 ∃ x4 : (RV), (took x nb x4) ∧ 
 (bitI BinOp.and IntKind.u64 (x3.bits : Int) (IntKind.wrap IntKind.u64 (shlI IntKind.u64 (1 : Int) (↑nb : Int) - (1 : Int))) = (↑(RS.W x % (2 : Nat) ^ nb) : Int)) ∧ 
 (x.m = x.m) ∧ 
 (relLe x.rel x.rel) ∧ 
 (x.rb = x.rb) ∧ 
 ((x3.off : Int) = (x4.off : Int)) ∧ 
 (x.sb = x.sb ∧ Off.lit 0 = Off.lit 0) ∧ 
 (Value.nilIface = Value.nilIface) ∧ (x.bb = x.bb ∧ Off.lit 0 = Off.lit 0) ∧ 
 (shrI IntKind.u64 (x3.bits : Int) (↑nb : Int) = (x4.bits : Int)) ∧ 
 (IntKind.wrap IntKind.u64 ((x3.num : Int) - (↑nb : Int)) = (x4.num : Int)) ∧ 
 (x.big = x.big) ∧ 
 (x3.pk = x4.pk ∧ x3.pkn = x4.pkn) ∧ 
 (x3.dis = x4.dis) ∧ 
 ((x3.fed : Int) = (x4.fed : Int)) ∧ 
 (Value.pointer none = Value.pointer none) ∧ (x.bb = x.bb ∧ Off.lit 0 = Off.lit 0) ∧ 
 (Value.pointer none = Value.pointer none) ∧ (x.sb = x.sb) ∧ 
 (x.vs = x.vs ∧ ints (nats (ints x.bs)) = ints x.bs) ∧ 
 ((x3.off : Int) = (x4.off : Int)) ∧ 
 (x3.prev = x4.prev) ∧ 
 (x.bb = x.bb) ∧ 
 (x.sb = x.sb ∧ Off.lit 0 = Off.lit 0) ∧ 
 ((x3.pos : Int) = (x4.pos : Int)) ∧ 
 (x3.bv = x4.bv ∧ x3.bn = x4.bn) ∧ 
 ((512 : Nat) = (512 : Nat) ∧ x3.arr = x4.arr) ∧ 
 (True)) ∧
 (∀ x3 : (RV), (dry (RS.mk x2 x.rel x.rb x.sb x.bb x.vs (nats (ints x.bs)) x.big x1 (Int.toNat (x.off : Int)) (Int.toNat (x.bits : Int)) (Int.toNat (x.num : Int)) x.pk x.pkn x.dis (Int.toNat (x.fed : Int)) (Int.toNat (x.pos : Int)) x.bv x.bn x.arr x.prev) (Int.toNat (↑nb : Int)) x3) → 
 (x2 = x2) ∧ 
 ∀ x4 : (Nat), ∃ x5 : (RV × Nat), (lacks x nb x5.1) ∧ 
 (x4 = x5.2 ∧ Off.lit 0 = Off.lit 0) ∧ 
 (x.m = x.m) ∧ 
 (relLe x.rel x.rel) ∧ 
 (x.rb = x.rb) ∧ 
 ((x3.off : Int) = (x5.1.off : Int)) ∧ 
 (x.sb = x.sb ∧ Off.lit 0 = Off.lit 0) ∧ 
 (Value.nilIface = Value.nilIface) ∧ (x.bb = x.bb ∧ Off.lit 0 = Off.lit 0) ∧ 
 ((x3.bits : Int) = (x5.1.bits : Int)) ∧ 
 ((x3.num : Int) = (x5.1.num : Int)) ∧ 
 (x.big = x.big) ∧ 
 (x3.pk = x5.1.pk ∧ x3.pkn = x5.1.pkn) ∧ 
 (x3.dis = x5.1.dis) ∧ 
 ((x3.fed : Int) = (x5.1.fed : Int)) ∧ 
 (Value.pointer none = Value.pointer none) ∧ (x.bb = x.bb ∧ Off.lit 0 = Off.lit 0) ∧ 
 (Value.pointer none = Value.pointer none) ∧ (x.sb = x.sb) ∧ 
 (x.vs = x.vs ∧ ints (nats (ints x.bs)) = ints x.bs) ∧ 
 ((x3.off : Int) = (x5.1.off : Int)) ∧ 
 (x3.prev = x5.1.prev) ∧ 
 (x.bb = x.bb) ∧ 
 (x.sb = x.sb ∧ Off.lit 0 = Off.lit 0) ∧ 
 ((x3.pos : Int) = (x5.1.pos : Int)) ∧ 
 (x3.bv = x5.1.bv ∧ x3.bn = x5.1.bn) ∧ 
 ((512 : Nat) = (512 : Nat) ∧ x3.arr = x5.1.arr) ∧ 
 (x4 = x5.2) ∧ 
 (errV (Gl.U G) = errV (Gl.U G)) ∧ (True))
noncomputable def law_c103 (G : Gl) (P : Nat) (x : RS) (nb : Nat) : VCT := fnx (CH G 4) (INH G 4 (b103 G) NA) noAnn Tryz.f103 ((c103 G P).args (x, nb)) ((c103 G P).H (x, nb)) (outK true 5 ((c103 G P).ret (x, nb))) ((c103 G P).pan (x, nb))
theorem eq_c103 (G : Gl) (P : Nat) (x : RS) (nb : Nat) : cond_c103 G P x nb = (law_c103 G P x nb).den := by kernel_rfl
def cond_c107 (G : Gl) (P : Nat) (x : RS) : Prop :=
 (x.rb = x.rb) ∧ ((8 : Int) ≠ (0 : Int)) ∧ 
 (x.rb = x.rb) ∧ ((0 : Int) ≤ Int.tmod (x.num : Int) (8 : Int)) ∧ 
 (x.rb = x.rb) ∧ ((0 : Int) ≤ Int.tmod (x.num : Int) (8 : Int)) ∧ 
 (x.rb = x.rb) ∧ (x.rb = x.rb) ∧ (x.rb = x.rb) ∧ ∃ x1 : (RV), (took x (((8 : Nat) * List.length x.bs - RS.P x) % (8 : Nat)) x1) ∧ 
 (bitI BinOp.and IntKind.u64 (x.bits : Int) (IntKind.wrap IntKind.u64 (shlI IntKind.u64 (1 : Int) (Int.tmod (x.num : Int) (8 : Int)) - (1 : Int))) = (↑(RS.W x % (2 : Nat) ^ (((8 : Nat) * List.length x.bs - RS.P x) % (8 : Nat))) : Int)) ∧ 
 (x.m = x.m) ∧ 
 (relLe x.rel x.rel) ∧ 
 (x.rb = x.rb) ∧ 
 ((x.off : Int) = (x1.off : Int)) ∧ 
 (x.sb = x.sb ∧ Off.lit 0 = Off.lit 0) ∧ 
 (Value.nilIface = Value.nilIface) ∧ (x.bb = x.bb ∧ Off.lit 0 = Off.lit 0) ∧ 
 (shrI IntKind.u64 (x.bits : Int) (Int.tmod (x.num : Int) (8 : Int)) = (x1.bits : Int)) ∧ 
 (IntKind.wrap IntKind.u64 ((x.num : Int) - Int.tmod (x.num : Int) (8 : Int)) = (x1.num : Int)) ∧ 
 (x.big = x.big) ∧ 
 (x.pk = x1.pk ∧ x.pkn = x1.pkn) ∧ 
 (x.dis = x1.dis) ∧ 
 ((x.fed : Int) = (x1.fed : Int)) ∧ 
 (Value.pointer none = Value.pointer none) ∧ (x.bb = x.bb ∧ Off.lit 0 = Off.lit 0) ∧ 
 (Value.pointer none = Value.pointer none) ∧ (x.sb = x.sb) ∧ 
 (x.vs = x.vs ∧ ints x.bs = ints x.bs) ∧ 
 ((x.off : Int) = (x1.off : Int)) ∧ 
 (x.prev = x1.prev) ∧ 
 (x.bb = x.bb) ∧ 
 (x.sb = x.sb ∧ Off.lit 0 = Off.lit 0) ∧ 
 ((x.pos : Int) = (x1.pos : Int)) ∧ 
 (x.bv = x1.bv ∧ x.bn = x1.bn) ∧ 
 ((512 : Nat) = (512 : Nat) ∧ x.arr = x1.arr) ∧ 
 (True)
noncomputable def law_c107 (G : Gl) (P : Nat) (x : RS) : VCT := fnx (CH G 4) (INH G 4 no NA) noAnn Tryz.f107 ((c107 P).args x) ((c107 P).H x) (outK true 5 ((c107 P).ret x)) ((c107 P).pan x)
theorem eq_c107 (G : Gl) (P : Nat) (x : RS) : cond_c107 G P x = (law_c107 G P x).den := by kernel_rfl
def cond_c109 (G : Gl) (P : Nat) (x : RS) : Prop :=
 (x.rb = x.rb) ∧ (inI64 ((8 : Int) * (x.off : Int))) ∧ 
 (x.rb = x.rb) ∧ (inI64 (x.num : Int)) ∧ 
 (inI64 ((8 : Int) * (x.off : Int) - (x.num : Int))) ∧ 
 (x.rb = x.rb) ∧ (x.rb = x.rb) ∧ (x.rb = x.rb) ∧ (x.rb = x.rb) ∧ (inI64 (IntKind.wrap IntKind.u64 ((x.fed : Int) - (x.num : Int)))) ∧ 
 (inI64 (x.dis + IntKind.wrap IntKind.u64 ((x.fed : Int) - (x.num : Int)))) ∧ 
 (x.rb = x.rb) ∧ (inI64 ((8 : Int) * (x.off : Int))) ∧ 
 (inI64 ((8 : Int) * (x.off : Int) + (x.dis + IntKind.wrap IntKind.u64 ((x.fed : Int) - (x.num : Int))))) ∧ 
 ∃ x1 : (Unit), (True) ∧ 
 ((8 : Int) * (x.off : Int) + (x.dis + IntKind.wrap IntKind.u64 ((x.fed : Int) - (x.num : Int))) = (↑(RS.P x) : Int)) ∧ 
 (x.m = x.m) ∧ (relLe x.rel x.rel) ∧ 
 (x.rb = x.rb) ∧ ((x.off : Int) = (x.off : Int)) ∧ (x.sb = x.sb ∧ Off.lit 0 = Off.lit 0) ∧ 
 (Value.nilIface = Value.nilIface) ∧ (x.bb = x.bb ∧ Off.lit 0 = Off.lit 0) ∧ 
 ((x.bits : Int) = (x.bits : Int)) ∧ ((x.num : Int) = (x.num : Int)) ∧ (x.big = x.big) ∧ (x.pk = x.pk ∧ x.pkn = x.pkn) ∧ 
 (x.dis = x.dis) ∧ ((x.fed : Int) = (x.fed : Int)) ∧ (Value.pointer none = Value.pointer none) ∧ (x.bb = x.bb ∧ Off.lit 0 = Off.lit 0) ∧ 
 (Value.pointer none = Value.pointer none) ∧ (x.sb = x.sb) ∧ (x.vs = x.vs ∧ ints x.bs = ints x.bs) ∧ 
 ((x.off : Int) = (x.off : Int)) ∧ (x.prev = x.prev) ∧ (x.bb = x.bb) ∧ (x.sb = x.sb ∧ Off.lit 0 = Off.lit 0) ∧ 
 ((x.pos : Int) = (x.pos : Int)) ∧ (x.bv = x.bv ∧ x.bn = x.bn) ∧ 
 ((512 : Nat) = (512 : Nat) ∧ x.arr = x.arr) ∧ 
 (True)
noncomputable def law_c109 (G : Gl) (P : Nat) (x : RS) : VCT := fnx (CH G 4) (INH G 4 no NA) noAnn Tryz.f109 ((c109 P).args x) ((c109 P).H x) (outK true 5 ((c109 P).ret x)) ((c109 P).pan x)
theorem eq_c109 (G : Gl) (P : Nat) (x : RS) : cond_c109 G P x = (law_c109 G P x).den := by kernel_rfl
theorem ok_c103 (G : Gl) (P : Nat) (x : RS) (nb : Nat) (hx : rsOK x) (hn : nb ≤ 56) : cond_c103 G P x nb := by
  unfold cond_c103
  have e3 : ∀ l : List Nat, nats (ints l) = l := nats_ints
  simp only [e3, rel_self, true_and, and_true, Int.toNat_natCast]
  refine ⟨x.P, fun m => ⟨⟨rs_m hx rfl, hn⟩, fun v hv => ⟨by omega, by omega, { v with bits := v.bits / 2 ^ nb, num := v.num - nb }, ?_, ?_, rfl, ?_, ?_, ⟨rfl, rfl⟩, rfl, rfl, rfl, rfl, rfl, ⟨rfl, rfl⟩, rfl⟩, fun v hv b => ⟨(v, b), ⟨rs_m hv.ok rfl, ?_⟩, rfl, rfl, rfl, rfl, ⟨rfl, rfl⟩, rfl, rfl, rfl, rfl, rfl, ⟨rfl, rfl⟩, rfl, rfl⟩⟩⟩
  · exact rs_take (x := x) (v := v) (rs_m hv.ok rfl) hv.num
  · have hbk : bkOK x.W v.bits v.num := hv.ok.l.bk
    rw [mask hbk.lt hn, bk_val hbk hv.num]
  · rw [shrN, show min nb IntKind.u64.bits = nb by simp only [IntKind.bits]; omega]
  · have h1 : v.num ≤ 64 := hv.ok.l.bk.n
    have h2 := hv.num
    rw [wr64]; dsimp only; omega
  · have h1 : x.P + v.num = 8 * x.bs.length := hv.all
    have h2 := hv.num
    omega
theorem ok_c107 (G : Gl) (P : Nat) (x : RS) (hx : rsOK x) : cond_c107 G P x := by
  unfold cond_c107
  have h64 : x.num ≤ 64 := hx.l.bk.n
  have al := hx.l.al
  have en := hx.l.end_
  have em : (8 * x.bs.length - x.P) % 8 = x.num % 8 := by omega
  have t1 : Int.tmod (x.num : Int) 8 = ((x.num % 8 : Nat) : Int) := by rw [Int.tmod_eq_emod_of_nonneg (by omega)]; omega
  simp only [t1, rel_self, true_and, and_true, em]
  have key := rs_take (x := x) (v := ⟨x.off, x.bits, x.num, x.pk, x.pkn, x.dis, x.fed, x.pos, x.bv, x.bn, x.arr, x.prev⟩) (n := x.num % 8) (rs_m hx rfl) (by dsimp only; omega)
  refine ⟨by decide, by omega, by omega, _, key, ?_, rfl, ?_, ?_, ⟨rfl, rfl⟩, rfl, rfl, rfl, rfl, rfl, ⟨rfl, rfl⟩, rfl⟩
  · have hbk := hx.l.bk
    rw [mask hbk.lt (by omega), bk_val hbk (by omega)]
  · rw [shrN, show min (x.num % 8) IntKind.u64.bits = x.num % 8 by simp only [IntKind.bits]; omega]
  · rw [wr64]; dsimp only; omega
theorem ok_c109 (G : Gl) (P : Nat) (x : RS) (hx : rsW x) : cond_c109 G P x := by
  unfold cond_c109
  have h64 : x.num ≤ 64 := hx.n
  have hf := hx.fed
  have hd := hx.dis
  have hl := hx.len
  have en := hx.end_
  have ho := hx.off
  have e1 : IntKind.u64.wrap ((x.fed : Int) - (x.num : Int)) = (x.fed : Int) - (x.num : Int) := by rw [wr64]; omega
  simp only [e1, rel_self, true_and, and_true, inI64]
  exact ⟨by omega, by omega, by omega, by omega, by omega, by omega, by omega, (), by omega⟩
theorem b103_ok (G : Gl) : ∀ f pt, b103 G f = some pt → SpecOK (CC G) f pt := by
  intro f pt h
  unfold b103 at h
  split at h
  · cases h; exact exPT_ok 0 fun P => loc_ok (s143 G P) _
  · cases h
theorem s103 (G : Gl) (P : Nat) : SpecOK (CC G) 103 (c103 G P).pt := specH G 4 (b103_ok G) (fn := Tryz.f103) rfl NA (c103 G P) (fun _ => noAnn) fun ⟨x, nb⟩ h => Met.of (eq_c103 G P x nb) (ok_c103 G P x nb h.1 h.2)
theorem s107 (G : Gl) (P : Nat) : SpecOK (CC G) 107 (c107 P).pt := specH G 4 (no_ok G) (fn := Tryz.f107) rfl NA (c107 P) (fun _ => noAnn) fun x h => Met.of (eq_c107 G P x) (ok_c107 G P x h)
theorem s109 (G : Gl) (P : Nat) : SpecOK (CC G) 109 (c109 P).pt := specH G 4 (no_ok G) (fn := Tryz.f109) rfl NA (c109 P) (fun _ => noAnn) fun x h => Met.of (eq_c109 G P x) (ok_c109 G P x h)
end Pc
/-
  Read does what its contract says.
-/
set_option linter.unusedVariables false
set_option maxRecDepth 100000
open Go Go.Vg Go.Proofs
namespace Pc
def cond_c230 (G : Gl) (P : Nat) (x : RS) (b : BF) : Prop :=
 (x.rb = x.rb) ∧ Br (decide ((x.num : Int) > (0 : Int)))
 ((x.rb = x.rb) ∧ ((8 : Int) ≠ (0 : Int)) ∧ 
 Br (Int.tmod (x.num : Int) (8 : Int) != (0 : Int))
 (((∃ x1 : (RV × Nat), (read230 x b x1.1 x1.2) ∧ 
 ((0 : Int) = (x1.2 : Int)) ∧ 
 False /- "match: values of two makes" -/) ∨
 (∃ x1 : (RV), (eof230 x x1) ∧ 
 ((0 : Int) = (0 : Int)) ∧ 
 False /- "match: values of two makes" -/)))
 (∃ x1 : (Nat × Nat), (x1.1 ≤ BF.hi b - BF.lo b ∧ (8 : Nat) * x1.1 ≤ Int.toNat (x.num : Int) ∧ bkOK (RS.W x / (2 : Nat) ^ ((8 : Nat) * x1.1)) x1.2 (Int.toNat (x.num : Int) - (8 : Nat) * x1.1)) ∧ 
 ((0 : Int) = (x1.1 : Int)) ∧ 
 (x.m = x.m) ∧ (relLe x.rel x.rel) ∧ 
 (x.rb = x.rb) ∧ 
 ((x.off : Int) = (↑(Int.toNat (x.off : Int)) : Int)) ∧ 
 (x.sb = x.sb ∧ Off.lit 0 = Off.lit 0) ∧ 
 (Value.nilIface = Value.nilIface) ∧ (x.bb = x.bb ∧ Off.lit 0 = Off.lit 0) ∧ 
 ((x.bits : Int) = (x1.2 : Int)) ∧ 
 ((x.num : Int) = (↑(Int.toNat (x.num : Int) - (8 : Nat) * x1.1) : Int)) ∧ 
 (x.big = x.big) ∧ 
 (x.pk = x.pk ∧ x.pkn = x.pkn) ∧ 
 (x.dis = x.dis) ∧ 
 ((x.fed : Int) = (↑(Int.toNat (x.fed : Int)) : Int)) ∧ 
 (Value.pointer none = Value.pointer none) ∧ (x.bb = x.bb ∧ Off.lit 0 = Off.lit 0) ∧ 
 (Value.pointer none = Value.pointer none) ∧ (x.sb = x.sb) ∧ (x.vs = x.vs ∧ ints x.bs = ints x.bs) ∧ 
 ((x.off : Int) = (x.off : Int)) ∧ (x.prev = x.prev) ∧ (x.bb = x.bb) ∧ (x.sb = x.sb ∧ Off.lit 0 = Off.lit 0) ∧ 
 ((x.pos : Int) = (x.pos : Int)) ∧ (x.bv = x.bv ∧ x.bn = x.bn) ∧ 
 ((512 : Nat) = (512 : Nat) ∧ x.arr = x.arr) ∧ 
 (BF.ox b = BF.ox b ∧ BF.l b = putAt (BF.l b) (BF.lo b) (List.take x1.1 (List.drop (RS.P x / (8 : Nat)) x.bs))) ∧ 
 ∀ x2 : (Nat × Nat), ((x2.1 ≤ BF.hi b - BF.lo b ∧ (8 : Nat) * x2.1 ≤ Int.toNat (x.num : Int) ∧ bkOK (RS.W x / (2 : Nat) ^ ((8 : Nat) * x2.1)) x2.2 (Int.toNat (x.num : Int) - (8 : Nat) * x2.1)) → 
 Br (decide ((↑(BF.hi b - BF.lo b) : Int) > (x2.1 : Int)))
 ((x.rb = x.rb) ∧ 
 Br (decide ((↑(Int.toNat (x.num : Int) - (8 : Nat) * x2.1) : Int) > (0 : Int)))
 ((x.rb = x.rb) ∧ 
 Br x.big
 ((x.rb = x.rb) ∧ 
 ∀ x3 : (Nat → Option Obj), (Int.toNat (IntKind.wrap IntKind.u8 (x2.2 : Int)) < (256 : Nat)) ∧ 
 (IntKind.wrap IntKind.u8 (x2.2 : Int) = (↑(Int.toNat (IntKind.wrap IntKind.u8 (x2.2 : Int))) : Int)) ∧ 
 (x3 = x3) ∧ 
 (relLe x.rel x.rel) ∧ 
 ∀ x4 : (Unit), ((True) → 
 (x3 = x3) ∧ 
 (BF.ox b = BF.ox b) ∧ 
 (inRange (x2.1 : Int) (BF.hi b - BF.lo b) ∧ BF.hi b ≤ List.length (putAt (BF.l b) (BF.lo b) (List.take x2.1 (List.drop (RS.P x / (8 : Nat)) x.bs)))) ∧ 
 (BF.ox b = BF.ox b ∧ BF.lo b + Int.toNat (x2.1 : Int) < List.length (putAt (BF.l b) (BF.lo b) (List.take x2.1 (List.drop (RS.P x / (8 : Nat)) x.bs)))) ∧ 
 (x.rb = x.rb) ∧ 
 ((0 : Int) ≤ (8 : Int)) ∧ 
 (x.rb = x.rb) ∧ 
 (x.rb = x.rb) ∧ 
 (x.rb = x.rb) ∧ 
 (inI64 ((x2.1 : Int) + (1 : Int))) ∧ 
 ∃ x5 : (Nat × Nat), ((x5.1 ≤ BF.hi b - BF.lo b ∧ (8 : Nat) * x5.1 ≤ Int.toNat (x.num : Int) ∧ bkOK (RS.W x / (2 : Nat) ^ ((8 : Nat) * x5.1)) x5.2 (Int.toNat (x.num : Int) - (8 : Nat) * x5.1)) ∧ BF.hi b - BF.lo b - x5.1 < BF.hi b - BF.lo b - x2.1) ∧ 
 ((x2.1 : Int) + (1 : Int) = (x5.1 : Int)) ∧ 
 (x.m = x.m) ∧ (relLe x.rel x.rel) ∧ 
 (x.rb = x.rb) ∧ ((↑(Int.toNat (x.off : Int)) : Int) = (↑(Int.toNat (x.off : Int)) : Int)) ∧ (x.sb = x.sb ∧ Off.lit 0 = Off.lit 0) ∧ 
 (Value.nilIface = Value.nilIface) ∧ (x.bb = x.bb ∧ Off.lit 0 = Off.lit 0) ∧ 
 (shrI IntKind.u64 (x2.2 : Int) (8 : Int) = (x5.2 : Int)) ∧ 
 (IntKind.wrap IntKind.u64 ((↑(Int.toNat (x.num : Int) - (8 : Nat) * x2.1) : Int) - (8 : Int)) = (↑(Int.toNat (x.num : Int) - (8 : Nat) * x5.1) : Int)) ∧ 
 (x.big = x.big) ∧ (x.pk = x.pk ∧ x.pkn = x.pkn) ∧ 
 (x.dis = x.dis) ∧ ((↑(Int.toNat (x.fed : Int)) : Int) = (↑(Int.toNat (x.fed : Int)) : Int)) ∧ (Value.pointer none = Value.pointer none) ∧ (x.bb = x.bb ∧ Off.lit 0 = Off.lit 0) ∧ 
 (Value.pointer none = Value.pointer none) ∧ (x.sb = x.sb) ∧ (x.vs = x.vs ∧ ints x.bs = ints x.bs) ∧ 
 ((x.off : Int) = (x.off : Int)) ∧ (x.prev = x.prev) ∧ (x.bb = x.bb) ∧ (x.sb = x.sb ∧ Off.lit 0 = Off.lit 0) ∧ 
 ((x.pos : Int) = (x.pos : Int)) ∧ (x.bv = x.bv ∧ x.bn = x.bn) ∧ 
 ((512 : Nat) = (512 : Nat) ∧ x.arr = x.arr) ∧ 
 (BF.ox b = BF.ox b ∧ List.set (putAt (BF.l b) (BF.lo b) (List.take x2.1 (List.drop (RS.P x / (8 : Nat)) x.bs))) (BF.lo b + Int.toNat (x2.1 : Int)) (↑(numL (byteBits true (Int.toNat (IntKind.wrap IntKind.u8 (x2.2 : Int))))) : Int) = putAt (BF.l b) (BF.lo b) (List.take x5.1 (List.drop (RS.P x / (8 : Nat)) x.bs))) ∧ 
 (True)))
 ((x.rb = x.rb) ∧ 
 (BF.ox b = BF.ox b) ∧ 
 (inRange (x2.1 : Int) (BF.hi b - BF.lo b) ∧ BF.hi b ≤ List.length (putAt (BF.l b) (BF.lo b) (List.take x2.1 (List.drop (RS.P x / (8 : Nat)) x.bs)))) ∧ 
 (BF.ox b = BF.ox b ∧ BF.lo b + Int.toNat (x2.1 : Int) < List.length (putAt (BF.l b) (BF.lo b) (List.take x2.1 (List.drop (RS.P x / (8 : Nat)) x.bs)))) ∧ 
 (x.rb = x.rb) ∧ 
 ((0 : Int) ≤ (8 : Int)) ∧ 
 (x.rb = x.rb) ∧ 
 (x.rb = x.rb) ∧ 
 (x.rb = x.rb) ∧ 
 (inI64 ((x2.1 : Int) + (1 : Int))) ∧ 
 ∃ x3 : (Nat × Nat), ((x3.1 ≤ BF.hi b - BF.lo b ∧ (8 : Nat) * x3.1 ≤ Int.toNat (x.num : Int) ∧ bkOK (RS.W x / (2 : Nat) ^ ((8 : Nat) * x3.1)) x3.2 (Int.toNat (x.num : Int) - (8 : Nat) * x3.1)) ∧ BF.hi b - BF.lo b - x3.1 < BF.hi b - BF.lo b - x2.1) ∧ 
 ((x2.1 : Int) + (1 : Int) = (x3.1 : Int)) ∧ 
 (x.m = x.m) ∧ (relLe x.rel x.rel) ∧ 
 (x.rb = x.rb) ∧ ((↑(Int.toNat (x.off : Int)) : Int) = (↑(Int.toNat (x.off : Int)) : Int)) ∧ (x.sb = x.sb ∧ Off.lit 0 = Off.lit 0) ∧ 
 (Value.nilIface = Value.nilIface) ∧ (x.bb = x.bb ∧ Off.lit 0 = Off.lit 0) ∧ 
 (shrI IntKind.u64 (x2.2 : Int) (8 : Int) = (x3.2 : Int)) ∧ 
 (IntKind.wrap IntKind.u64 ((↑(Int.toNat (x.num : Int) - (8 : Nat) * x2.1) : Int) - (8 : Int)) = (↑(Int.toNat (x.num : Int) - (8 : Nat) * x3.1) : Int)) ∧ 
 (x.big = x.big) ∧ (x.pk = x.pk ∧ x.pkn = x.pkn) ∧ 
 (x.dis = x.dis) ∧ ((↑(Int.toNat (x.fed : Int)) : Int) = (↑(Int.toNat (x.fed : Int)) : Int)) ∧ (Value.pointer none = Value.pointer none) ∧ (x.bb = x.bb ∧ Off.lit 0 = Off.lit 0) ∧ 
 (Value.pointer none = Value.pointer none) ∧ (x.sb = x.sb) ∧ (x.vs = x.vs ∧ ints x.bs = ints x.bs) ∧ 
 ((x.off : Int) = (x.off : Int)) ∧ (x.prev = x.prev) ∧ (x.bb = x.bb) ∧ (x.sb = x.sb ∧ Off.lit 0 = Off.lit 0) ∧ 
 ((x.pos : Int) = (x.pos : Int)) ∧ (x.bv = x.bv ∧ x.bn = x.bn) ∧ 
 ((512 : Nat) = (512 : Nat) ∧ x.arr = x.arr) ∧ 
 (BF.ox b = BF.ox b ∧ List.set (putAt (BF.l b) (BF.lo b) (List.take x2.1 (List.drop (RS.P x / (8 : Nat)) x.bs))) (BF.lo b + Int.toNat (x2.1 : Int)) (IntKind.wrap IntKind.u8 (x2.2 : Int)) = putAt (BF.l b) (BF.lo b) (List.take x3.1 (List.drop (RS.P x / (8 : Nat)) x.bs))) ∧ 
 (True)))
 (((∃ x3 : (RV × Nat), (read230 x b x3.1 x3.2) ∧ 
 ((x2.1 : Int) = (x3.2 : Int)) ∧ 
 (Value.nilIface = Value.nilIface) ∧ (x.m = x.m) ∧ 
 (relLe x.rel x.rel) ∧ 
 (x.rb = x.rb) ∧ 
 ((↑(Int.toNat (x.off : Int)) : Int) = (x3.1.off : Int)) ∧ 
 (x.sb = x.sb ∧ Off.lit 0 = Off.lit 0) ∧ 
 (Value.nilIface = Value.nilIface) ∧ (x.bb = x.bb ∧ Off.lit 0 = Off.lit 0) ∧ 
 ((x2.2 : Int) = (x3.1.bits : Int)) ∧ 
 ((↑(Int.toNat (x.num : Int) - (8 : Nat) * x2.1) : Int) = (x3.1.num : Int)) ∧ 
 (x.big = x.big) ∧ 
 (x.pk = x3.1.pk ∧ x.pkn = x3.1.pkn) ∧ 
 (x.dis = x3.1.dis) ∧ 
 ((↑(Int.toNat (x.fed : Int)) : Int) = (x3.1.fed : Int)) ∧ 
 (Value.pointer none = Value.pointer none) ∧ (x.bb = x.bb ∧ Off.lit 0 = Off.lit 0) ∧ 
 (Value.pointer none = Value.pointer none) ∧ (x.sb = x.sb) ∧ 
 (x.vs = x.vs ∧ ints x.bs = ints x.bs) ∧ 
 ((x.off : Int) = (x3.1.off : Int)) ∧ 
 (x.prev = x3.1.prev) ∧ 
 (x.bb = x.bb) ∧ 
 (x.sb = x.sb ∧ Off.lit 0 = Off.lit 0) ∧ 
 ((x.pos : Int) = (x3.1.pos : Int)) ∧ 
 (x.bv = x3.1.bv ∧ x.bn = x3.1.bn) ∧ 
 ((512 : Nat) = (512 : Nat) ∧ x.arr = x3.1.arr) ∧ 
 (BF.ox b = BF.ox b ∧ putAt (BF.l b) (BF.lo b) (List.take x2.1 (List.drop (RS.P x / (8 : Nat)) x.bs)) = putAt (BF.l b) (BF.lo b) (List.take x3.2 (List.drop (RS.P x / (8 : Nat)) x.bs))) ∧ 
 (True)) ∨
 (∃ x3 : (RV), (eof230 x x3) ∧ 
 ((x2.1 : Int) = (0 : Int)) ∧ 
 (Value.nilIface = errV (Gl.E G)) ∧ 
 (x.m = x.m) ∧ 
 (relLe x.rel x.rel) ∧ 
 (x.rb = x.rb) ∧ 
 ((↑(Int.toNat (x.off : Int)) : Int) = (x3.off : Int)) ∧ 
 (x.sb = x.sb ∧ Off.lit 0 = Off.lit 0) ∧ 
 (Value.nilIface = Value.nilIface) ∧ (x.bb = x.bb ∧ Off.lit 0 = Off.lit 0) ∧ 
 ((x2.2 : Int) = (x3.bits : Int)) ∧ 
 ((↑(Int.toNat (x.num : Int) - (8 : Nat) * x2.1) : Int) = (x3.num : Int)) ∧ 
 (x.big = x.big) ∧ 
 (x.pk = x3.pk ∧ x.pkn = x3.pkn) ∧ 
 (x.dis = x3.dis) ∧ 
 ((↑(Int.toNat (x.fed : Int)) : Int) = (x3.fed : Int)) ∧ 
 (Value.pointer none = Value.pointer none) ∧ (x.bb = x.bb ∧ Off.lit 0 = Off.lit 0) ∧ 
 (Value.pointer none = Value.pointer none) ∧ (x.sb = x.sb) ∧ 
 (x.vs = x.vs ∧ ints x.bs = ints x.bs) ∧ 
 ((x.off : Int) = (x3.off : Int)) ∧ 
 (x.prev = x3.prev) ∧ 
 (x.bb = x.bb) ∧ 
 (x.sb = x.sb ∧ Off.lit 0 = Off.lit 0) ∧ 
 ((x.pos : Int) = (x3.pos : Int)) ∧ 
 (x.bv = x3.bv ∧ x.bn = x3.bn) ∧ 
 ((512 : Nat) = (512 : Nat) ∧ x.arr = x3.arr) ∧ 
 (BF.ox b = BF.ox b ∧ putAt (BF.l b) (BF.lo b) (List.take x2.1 (List.drop (RS.P x / (8 : Nat)) x.bs)) = BF.l b) ∧ 
 (True)))))
 (((∃ x3 : (RV × Nat), (read230 x b x3.1 x3.2) ∧ 
 ((x2.1 : Int) = (x3.2 : Int)) ∧ 
 (Value.nilIface = Value.nilIface) ∧ (x.m = x.m) ∧ 
 (relLe x.rel x.rel) ∧ 
 (x.rb = x.rb) ∧ 
 ((↑(Int.toNat (x.off : Int)) : Int) = (x3.1.off : Int)) ∧ 
 (x.sb = x.sb ∧ Off.lit 0 = Off.lit 0) ∧ 
 (Value.nilIface = Value.nilIface) ∧ (x.bb = x.bb ∧ Off.lit 0 = Off.lit 0) ∧ 
 ((x2.2 : Int) = (x3.1.bits : Int)) ∧ 
 ((↑(Int.toNat (x.num : Int) - (8 : Nat) * x2.1) : Int) = (x3.1.num : Int)) ∧ 
 (x.big = x.big) ∧ 
 (x.pk = x3.1.pk ∧ x.pkn = x3.1.pkn) ∧ 
 (x.dis = x3.1.dis) ∧ 
 ((↑(Int.toNat (x.fed : Int)) : Int) = (x3.1.fed : Int)) ∧ 
 (Value.pointer none = Value.pointer none) ∧ (x.bb = x.bb ∧ Off.lit 0 = Off.lit 0) ∧ 
 (Value.pointer none = Value.pointer none) ∧ (x.sb = x.sb) ∧ 
 (x.vs = x.vs ∧ ints x.bs = ints x.bs) ∧ 
 ((x.off : Int) = (x3.1.off : Int)) ∧ 
 (x.prev = x3.1.prev) ∧ 
 (x.bb = x.bb) ∧ 
 (x.sb = x.sb ∧ Off.lit 0 = Off.lit 0) ∧ 
 ((x.pos : Int) = (x3.1.pos : Int)) ∧ 
 (x.bv = x3.1.bv ∧ x.bn = x3.1.bn) ∧ 
 ((512 : Nat) = (512 : Nat) ∧ x.arr = x3.1.arr) ∧ 
 (BF.ox b = BF.ox b ∧ putAt (BF.l b) (BF.lo b) (List.take x2.1 (List.drop (RS.P x / (8 : Nat)) x.bs)) = putAt (BF.l b) (BF.lo b) (List.take x3.2 (List.drop (RS.P x / (8 : Nat)) x.bs))) ∧ 
 (True)) ∨
 (∃ x3 : (RV), (eof230 x x3) ∧ 
 ((x2.1 : Int) = (0 : Int)) ∧ 
 (Value.nilIface = errV (Gl.E G)) ∧ 
 (x.m = x.m) ∧ 
 (relLe x.rel x.rel) ∧ 
 (x.rb = x.rb) ∧ 
 ((↑(Int.toNat (x.off : Int)) : Int) = (x3.off : Int)) ∧ 
 (x.sb = x.sb ∧ Off.lit 0 = Off.lit 0) ∧ 
 (Value.nilIface = Value.nilIface) ∧ (x.bb = x.bb ∧ Off.lit 0 = Off.lit 0) ∧ 
 ((x2.2 : Int) = (x3.bits : Int)) ∧ 
 ((↑(Int.toNat (x.num : Int) - (8 : Nat) * x2.1) : Int) = (x3.num : Int)) ∧ 
 (x.big = x.big) ∧ 
 (x.pk = x3.pk ∧ x.pkn = x3.pkn) ∧ 
 (x.dis = x3.dis) ∧ 
 ((↑(Int.toNat (x.fed : Int)) : Int) = (x3.fed : Int)) ∧ 
 (Value.pointer none = Value.pointer none) ∧ (x.bb = x.bb ∧ Off.lit 0 = Off.lit 0) ∧ 
 (Value.pointer none = Value.pointer none) ∧ (x.sb = x.sb) ∧ 
 (x.vs = x.vs ∧ ints x.bs = ints x.bs) ∧ 
 ((x.off : Int) = (x3.off : Int)) ∧ 
 (x.prev = x3.prev) ∧ 
 (x.bb = x.bb) ∧ 
 (x.sb = x.sb ∧ Off.lit 0 = Off.lit 0) ∧ 
 ((x.pos : Int) = (x3.pos : Int)) ∧ 
 (x.bv = x3.bv ∧ x.bn = x3.bn) ∧ 
 ((512 : Nat) = (512 : Nat) ∧ x.arr = x3.arr) ∧ 
 (BF.ox b = BF.ox b ∧ putAt (BF.l b) (BF.lo b) (List.take x2.1 (List.drop (RS.P x / (8 : Nat)) x.bs)) = BF.l b) ∧ 
 (True)))))))
 (∃ x1 : (Nat), ∀ x2 : (Nat → Option Obj), (rsW (RS.mk x2 x.rel x.rb x.sb x.bb x.vs (nats (ints x.bs)) x.big x1 (Int.toNat (x.off : Int)) (Int.toNat (x.bits : Int)) (Int.toNat (x.num : Int)) x.pk x.pkn x.dis (Int.toNat (x.fed : Int)) (Int.toNat (x.pos : Int)) x.bv x.bn x.arr x.prev)) ∧ 
 (x.rb = x.rb ∧ Off.lit 0 = Off.lit 0) ∧ 
 (x2 = x2) ∧ 
 (relLe x.rel x.rel) ∧ 
 (x.rb = x.rb) ∧ 
 ((x.off : Int) = (↑(Int.toNat (x.off : Int)) : Int)) ∧ 
 (x.sb = x.sb ∧ Off.lit 0 = Off.lit 0) ∧ 
 (Value.nilIface = Value.nilIface) ∧ (x.bb = x.bb ∧ Off.lit 0 = Off.lit 0) ∧ 
 ((x.bits : Int) = (↑(Int.toNat (x.bits : Int)) : Int)) ∧ 
 ((x.num : Int) = (↑(Int.toNat (x.num : Int)) : Int)) ∧ 
 (x.big = x.big) ∧ 
 (x.pk = x.pk ∧ x.pkn = x.pkn) ∧ 
 (x.dis = x.dis) ∧ 
 ((x.fed : Int) = (↑(Int.toNat (x.fed : Int)) : Int)) ∧ 
 (Value.pointer none = Value.pointer none) ∧ (x.bb = x.bb ∧ Off.lit 0 = Off.lit 0) ∧ 
 (Value.pointer none = Value.pointer none) ∧ (x.sb = x.sb) ∧ 
 (x.vs = x.vs ∧ ints x.bs = ints (nats (ints x.bs))) ∧ 
 ((x.off : Int) = (↑(Int.toNat (x.off : Int)) : Int)) ∧ 
 (x.prev = x.prev) ∧ 
 (x.bb = x.bb) ∧ 
 (x.sb = x.sb ∧ Off.lit 0 = Off.lit 0) ∧ 
 ((x.pos : Int) = (↑(Int.toNat (x.pos : Int)) : Int)) ∧ 
 (x.bv = x.bv ∧ x.bn = x.bn) ∧ 
 ((512 : Nat) = (512 : Nat) ∧ x.arr = x.arr) ∧ 
 ∀ x3 : (Unit), ((True) → 
 (x2 = x2) ∧ 
 (x.rb = x.rb) ∧ 
 (x.sb = x.sb) ∧ (x.sb = x.sb) ∧ Br (decide ((↑((x1 + (7 : Nat)) / (8 : Nat)) : Int) ≥ (↑(List.length (ints (nats (ints x.bs)))) : Int)))
 ((x.rb = x.rb) ∧ 
 (inI64 ((↑((x1 + (7 : Nat)) / (8 : Nat)) : Int) + (0 : Int))) ∧ 
 (x.rb = x.rb) ∧ 
 ((∃ x4 : (RV × Nat), (read230 x b x4.1 x4.2) ∧ 
 ((0 : Int) = (x4.2 : Int)) ∧ 
 (errV (Gl.E G) = Value.nilIface) ∧ 
 (x.m = x.m) ∧ 
 (relLe x.rel x.rel) ∧ 
 (x.rb = x.rb) ∧ 
 ((↑((x1 + (7 : Nat)) / (8 : Nat)) : Int) + (0 : Int) = (x4.1.off : Int)) ∧ 
 (x.sb = x.sb ∧ Off.lit 0 = Off.lit 0) ∧ 
 (Value.nilIface = Value.nilIface) ∧ (x.bb = x.bb ∧ Off.lit 0 = Off.lit 0) ∧ 
 ((↑(Int.toNat (x.bits : Int)) : Int) = (x4.1.bits : Int)) ∧ 
 ((↑(Int.toNat (x.num : Int)) : Int) = (x4.1.num : Int)) ∧ 
 (x.big = x.big) ∧ 
 (Value.slice none 0 0 = x4.1.pk ∧ (0 : Nat) = x4.1.pkn) ∧ 
 ((x1 : Int) - (8 : Int) * (↑((x1 + (7 : Nat)) / (8 : Nat)) : Int) = x4.1.dis) ∧ 
 ((↑(Int.toNat (x.num : Int)) : Int) = (x4.1.fed : Int)) ∧ 
 (Value.pointer none = Value.pointer none) ∧ (x.bb = x.bb ∧ Off.lit 0 = Off.lit 0) ∧ 
 (Value.pointer none = Value.pointer none) ∧ (x.sb = x.sb) ∧ 
 (x.vs = x.vs ∧ ints (nats (ints x.bs)) = ints x.bs) ∧ 
 ((↑((x1 + (7 : Nat)) / (8 : Nat)) : Int) = (x4.1.off : Int)) ∧ 
 ((-1 : Int) = x4.1.prev) ∧ 
 (x.bb = x.bb) ∧ 
 (x.sb = x.sb ∧ Off.lit 0 = Off.lit 0) ∧ 
 ((↑(Int.toNat (x.pos : Int)) : Int) = (x4.1.pos : Int)) ∧ 
 (x.bv = x4.1.bv ∧ x.bn = x4.1.bn) ∧ 
 ((512 : Nat) = (512 : Nat) ∧ x.arr = x4.1.arr) ∧ 
 (BF.ox b = BF.ox b ∧ BF.l b = putAt (BF.l b) (BF.lo b) (List.take x4.2 (List.drop (RS.P x / (8 : Nat)) x.bs))) ∧ 
 (True)) ∨
 (∃ x4 : (RV), (eof230 x x4) ∧ 
 ((0 : Int) = (0 : Int)) ∧ 
 (errV (Gl.E G) = errV (Gl.E G)) ∧ (x.m = x.m) ∧ 
 (relLe x.rel x.rel) ∧ 
 (x.rb = x.rb) ∧ 
 ((↑((x1 + (7 : Nat)) / (8 : Nat)) : Int) + (0 : Int) = (x4.off : Int)) ∧ 
 (x.sb = x.sb ∧ Off.lit 0 = Off.lit 0) ∧ 
 (Value.nilIface = Value.nilIface) ∧ (x.bb = x.bb ∧ Off.lit 0 = Off.lit 0) ∧ 
 ((↑(Int.toNat (x.bits : Int)) : Int) = (x4.bits : Int)) ∧ 
 ((↑(Int.toNat (x.num : Int)) : Int) = (x4.num : Int)) ∧ 
 (x.big = x.big) ∧ 
 (Value.slice none 0 0 = x4.pk ∧ (0 : Nat) = x4.pkn) ∧ 
 ((x1 : Int) - (8 : Int) * (↑((x1 + (7 : Nat)) / (8 : Nat)) : Int) = x4.dis) ∧ 
 ((↑(Int.toNat (x.num : Int)) : Int) = (x4.fed : Int)) ∧ 
 (Value.pointer none = Value.pointer none) ∧ (x.bb = x.bb ∧ Off.lit 0 = Off.lit 0) ∧ 
 (Value.pointer none = Value.pointer none) ∧ (x.sb = x.sb) ∧ 
 (x.vs = x.vs ∧ ints (nats (ints x.bs)) = ints x.bs) ∧ 
 ((↑((x1 + (7 : Nat)) / (8 : Nat)) : Int) = (x4.off : Int)) ∧ 
 ((-1 : Int) = x4.prev) ∧ 
 (x.bb = x.bb) ∧ 
 (x.sb = x.sb ∧ Off.lit 0 = Off.lit 0) ∧ 
 ((↑(Int.toNat (x.pos : Int)) : Int) = (x4.pos : Int)) ∧ 
 (x.bv = x4.bv ∧ x.bn = x4.bn) ∧ 
 ((512 : Nat) = (512 : Nat) ∧ x.arr = x4.arr) ∧ 
 (BF.ox b = BF.ox b ∧ BF.l b = BF.l b) ∧ 
 (True))))
 ((x.sb = x.sb) ∧ (x.sb = x.sb) ∧ (x.sb = x.sb) ∧ ((0 : Int) ≤ (↑((x1 + (7 : Nat)) / (8 : Nat)) : Int) ∧ (↑((x1 + (7 : Nat)) / (8 : Nat)) : Int) ≤ (↑(List.length (ints (nats (ints x.bs)))) : Int) ∧ (↑(List.length (ints (nats (ints x.bs)))) : Int) ≤ (↑(List.length (ints (nats (ints x.bs)))) : Int)) ∧ 
 (BF.ox b = BF.ox b ∧ BF.lo b ≤ BF.hi b ∧ BF.hi b ≤ List.length (BF.l b)) ∧ 
 (x.sb = x.sb) ∧ (inI64 ((↑((x1 + (7 : Nat)) / (8 : Nat)) : Int) + (↑(min (List.length (List.drop (Int.toNat (↑((x1 + (7 : Nat)) / (8 : Nat)) : Int)) (List.take (Int.toNat (↑(List.length (ints (nats (ints x.bs)))) : Int)) (ints (nats (ints x.bs)))))) (BF.hi b - BF.lo b)) : Int))) ∧ 
 (x.sb = x.sb) ∧ (x.rb = x.rb) ∧ 
 (inI64 ((↑((x1 + (7 : Nat)) / (8 : Nat)) : Int) + (↑(min (List.length (List.drop (Int.toNat (↑((x1 + (7 : Nat)) / (8 : Nat)) : Int)) (List.take (Int.toNat (↑(List.length (ints (nats (ints x.bs)))) : Int)) (ints (nats (ints x.bs)))))) (BF.hi b - BF.lo b)) : Int))) ∧ 
 (x.rb = x.rb) ∧ 
 ((∃ x4 : (RV × Nat), (read230 x b x4.1 x4.2) ∧ 
 ((↑(min (List.length (List.drop (Int.toNat (↑((x1 + (7 : Nat)) / (8 : Nat)) : Int)) (List.take (Int.toNat (↑(List.length (ints (nats (ints x.bs)))) : Int)) (ints (nats (ints x.bs)))))) (BF.hi b - BF.lo b)) : Int) = (x4.2 : Int)) ∧ 
 (Value.nilIface = Value.nilIface) ∧ (x.m = x.m) ∧ 
 (relLe x.rel x.rel) ∧ 
 (x.rb = x.rb) ∧ 
 ((↑((x1 + (7 : Nat)) / (8 : Nat)) : Int) + (↑(min (List.length (List.drop (Int.toNat (↑((x1 + (7 : Nat)) / (8 : Nat)) : Int)) (List.take (Int.toNat (↑(List.length (ints (nats (ints x.bs)))) : Int)) (ints (nats (ints x.bs)))))) (BF.hi b - BF.lo b)) : Int) = (x4.1.off : Int)) ∧ 
 (x.sb = x.sb ∧ Off.lit 0 = Off.lit 0) ∧ 
 (Value.nilIface = Value.nilIface) ∧ (x.bb = x.bb ∧ Off.lit 0 = Off.lit 0) ∧ 
 ((↑(Int.toNat (x.bits : Int)) : Int) = (x4.1.bits : Int)) ∧ 
 ((↑(Int.toNat (x.num : Int)) : Int) = (x4.1.num : Int)) ∧ 
 (x.big = x.big) ∧ 
 (Value.slice none 0 0 = x4.1.pk ∧ (0 : Nat) = x4.1.pkn) ∧ 
 ((x1 : Int) - (8 : Int) * (↑((x1 + (7 : Nat)) / (8 : Nat)) : Int) = x4.1.dis) ∧ 
 ((↑(Int.toNat (x.num : Int)) : Int) = (x4.1.fed : Int)) ∧ 
 (Value.pointer none = Value.pointer none) ∧ (x.bb = x.bb ∧ Off.lit 0 = Off.lit 0) ∧ 
 (Value.pointer none = Value.pointer none) ∧ (x.sb = x.sb) ∧ 
 (x.vs = x.vs ∧ ints (nats (ints x.bs)) = ints x.bs) ∧ 
 ((↑((x1 + (7 : Nat)) / (8 : Nat)) : Int) + (↑(min (List.length (List.drop (Int.toNat (↑((x1 + (7 : Nat)) / (8 : Nat)) : Int)) (List.take (Int.toNat (↑(List.length (ints (nats (ints x.bs)))) : Int)) (ints (nats (ints x.bs)))))) (BF.hi b - BF.lo b)) : Int) = (x4.1.off : Int)) ∧ 
 ((-1 : Int) = x4.1.prev) ∧ 
 (x.bb = x.bb) ∧ 
 (x.sb = x.sb ∧ Off.lit 0 = Off.lit 0) ∧ 
 ((↑(Int.toNat (x.pos : Int)) : Int) = (x4.1.pos : Int)) ∧ 
 (x.bv = x4.1.bv ∧ x.bn = x4.1.bn) ∧ 
 ((512 : Nat) = (512 : Nat) ∧ x.arr = x4.1.arr) ∧ 
 (BF.ox b = BF.ox b ∧ List.take (BF.lo b) (BF.l b) ++ List.take (min (List.length (List.drop (Int.toNat (↑((x1 + (7 : Nat)) / (8 : Nat)) : Int)) (List.take (Int.toNat (↑(List.length (ints (nats (ints x.bs)))) : Int)) (ints (nats (ints x.bs)))))) (BF.hi b - BF.lo b)) (List.drop (Int.toNat (↑((x1 + (7 : Nat)) / (8 : Nat)) : Int)) (List.take (Int.toNat (↑(List.length (ints (nats (ints x.bs)))) : Int)) (ints (nats (ints x.bs))))) ++ List.drop (BF.lo b + min (List.length (List.drop (Int.toNat (↑((x1 + (7 : Nat)) / (8 : Nat)) : Int)) (List.take (Int.toNat (↑(List.length (ints (nats (ints x.bs)))) : Int)) (ints (nats (ints x.bs)))))) (BF.hi b - BF.lo b)) (BF.l b) = putAt (BF.l b) (BF.lo b) (List.take x4.2 (List.drop (RS.P x / (8 : Nat)) x.bs))) ∧ 
 (True)) ∨
 (∃ x4 : (RV), (eof230 x x4) ∧ 
 ((↑(min (List.length (List.drop (Int.toNat (↑((x1 + (7 : Nat)) / (8 : Nat)) : Int)) (List.take (Int.toNat (↑(List.length (ints (nats (ints x.bs)))) : Int)) (ints (nats (ints x.bs)))))) (BF.hi b - BF.lo b)) : Int) = (0 : Int)) ∧ 
 (Value.nilIface = errV (Gl.E G)) ∧ 
 (x.m = x.m) ∧ 
 (relLe x.rel x.rel) ∧ 
 (x.rb = x.rb) ∧ 
 ((↑((x1 + (7 : Nat)) / (8 : Nat)) : Int) + (↑(min (List.length (List.drop (Int.toNat (↑((x1 + (7 : Nat)) / (8 : Nat)) : Int)) (List.take (Int.toNat (↑(List.length (ints (nats (ints x.bs)))) : Int)) (ints (nats (ints x.bs)))))) (BF.hi b - BF.lo b)) : Int) = (x4.off : Int)) ∧ 
 (x.sb = x.sb ∧ Off.lit 0 = Off.lit 0) ∧ 
 (Value.nilIface = Value.nilIface) ∧ (x.bb = x.bb ∧ Off.lit 0 = Off.lit 0) ∧ 
 ((↑(Int.toNat (x.bits : Int)) : Int) = (x4.bits : Int)) ∧ 
 ((↑(Int.toNat (x.num : Int)) : Int) = (x4.num : Int)) ∧ 
 (x.big = x.big) ∧ 
 (Value.slice none 0 0 = x4.pk ∧ (0 : Nat) = x4.pkn) ∧ 
 ((x1 : Int) - (8 : Int) * (↑((x1 + (7 : Nat)) / (8 : Nat)) : Int) = x4.dis) ∧ 
 ((↑(Int.toNat (x.num : Int)) : Int) = (x4.fed : Int)) ∧ 
 (Value.pointer none = Value.pointer none) ∧ (x.bb = x.bb ∧ Off.lit 0 = Off.lit 0) ∧ 
 (Value.pointer none = Value.pointer none) ∧ (x.sb = x.sb) ∧ 
 (x.vs = x.vs ∧ ints (nats (ints x.bs)) = ints x.bs) ∧ 
 ((↑((x1 + (7 : Nat)) / (8 : Nat)) : Int) + (↑(min (List.length (List.drop (Int.toNat (↑((x1 + (7 : Nat)) / (8 : Nat)) : Int)) (List.take (Int.toNat (↑(List.length (ints (nats (ints x.bs)))) : Int)) (ints (nats (ints x.bs)))))) (BF.hi b - BF.lo b)) : Int) = (x4.off : Int)) ∧ 
 ((-1 : Int) = x4.prev) ∧ 
 (x.bb = x.bb) ∧ 
 (x.sb = x.sb ∧ Off.lit 0 = Off.lit 0) ∧ 
 ((↑(Int.toNat (x.pos : Int)) : Int) = (x4.pos : Int)) ∧ 
 (x.bv = x4.bv ∧ x.bn = x4.bn) ∧ 
 ((512 : Nat) = (512 : Nat) ∧ x.arr = x4.arr) ∧ 
 (BF.ox b = BF.ox b ∧ List.take (BF.lo b) (BF.l b) ++ List.take (min (List.length (List.drop (Int.toNat (↑((x1 + (7 : Nat)) / (8 : Nat)) : Int)) (List.take (Int.toNat (↑(List.length (ints (nats (ints x.bs)))) : Int)) (ints (nats (ints x.bs)))))) (BF.hi b - BF.lo b)) (List.drop (Int.toNat (↑((x1 + (7 : Nat)) / (8 : Nat)) : Int)) (List.take (Int.toNat (↑(List.length (ints (nats (ints x.bs)))) : Int)) (ints (nats (ints x.bs))))) ++ List.drop (BF.lo b + min (List.length (List.drop (Int.toNat (↑((x1 + (7 : Nat)) / (8 : Nat)) : Int)) (List.take (Int.toNat (↑(List.length (ints (nats (ints x.bs)))) : Int)) (ints (nats (ints x.bs)))))) (BF.hi b - BF.lo b)) (BF.l b) = BF.l b) ∧ 
 (True))))))
noncomputable def law_c230 (G : Gl) (P : Nat) (x : RS) (b : BF) : VCT := fnx (CH G 4) (INH G 4 b230 NA) (a230 x b) Tryz.f230 ((c230 G P).args (x, b)) ((c230 G P).H (x, b)) (outK true 6 ((c230 G P).ret (x, b))) ((c230 G P).pan (x, b))
theorem eq_c230 (G : Gl) (P : Nat) (x : RS) (b : BF) : cond_c230 G P x b = (law_c230 G P x b).den := by kernel_rfl
theorem ok_c230 (G : Gl) (P : Nat) (x : RS) (b : BF) (h : c230OK x b) : cond_c230 G P x b := by
  unfold cond_c230
  have e3 : ∀ l : List Nat, nats (ints l) = l := nats_ints
  have hw := h.w
  have h64 : x.num ≤ 64 := hw.n
  have al := hw.al
  have hP := h.al
  have hlen := hw.len
  have hend := hw.end_
  have hroom := h.room
  have t1 : Int.tmod (x.num : Int) 8 = ((x.num % 8 : Nat) : Int) := by rw [Int.tmod_eq_emod_of_nonneg (by omega)]; omega
  have t2 : x.num % 8 = 0 := by omega
  have e12 : ∀ q : Nat, List.drop q (List.take x.bs.length (ints x.bs)) = ints (x.bs.drop q) := fun q => by rw [← ints_drop x.bs q, ints_len]
  simp only [e3, t1, t2, e12, br_d, rel_self, true_and, and_true, inRange, inI64, Int.toNat_natCast, ints_len, List.length_drop]
  have fin : 0 < x.num → ∀ y : Nat × Nat, (y.1 ≤ b.hi - b.lo ∧ 8 * y.1 ≤ x.num ∧ bkOK (x.W / 2 ^ (8 * y.1)) y.2 (x.num - 8 * y.1)) → (b.lo < b.hi → 0 < y.1) → read230 x b ⟨x.off, y.2, x.num - 8 * y.1, x.pk, x.pkn, x.dis, x.fed, x.pos, x.bv, x.bn, x.arr, x.prev⟩ y.1 := fun h0 y hy hs => by
    have g : rsOK (x.adv ⟨x.off, y.2, x.num - 8 * y.1, x.pk, x.pkn, x.dis, x.fed, x.pos, x.bv, x.bn, x.arr, x.prev⟩ (8 * y.1)) := rs_takeB (v := ⟨x.off, x.bits, x.num, x.pk, x.pkn, x.dis, x.fed, x.pos, x.bv, x.bn, x.arr, x.prev⟩) (h.ok h0) hy.2.1 hy.2.2
    exact ⟨g.w, fun _ => g, by have := hy.2.1; omega, hy.1, hs⟩
  refine ⟨fun h0 => ⟨by decide, br_mk (fun hf => by simp at hf) (fun _ => ⟨(0, x.bits), ⟨Nat.zero_le _, Nat.zero_le _, ?_⟩, rfl, rfl, rfl, ?_, fun y hy => ⟨fun h1 => ⟨fun h2 => ?_, fun h2 => .inl ⟨(⟨x.off, y.2, x.num - 8 * y.1, x.pk, x.pkn, x.dis, x.fed, x.pos, x.bv, x.bn, x.arr, x.prev⟩, y.1), ?_, rfl, rfl, rfl, rfl, ⟨rfl, rfl⟩, rfl, rfl, rfl, rfl, rfl, ⟨rfl, rfl⟩, rfl, rfl⟩⟩, fun h1 => .inl ⟨(⟨x.off, y.2, x.num - 8 * y.1, x.pk, x.pkn, x.dis, x.fed, x.pos, x.bv, x.bn, x.arr, x.prev⟩, y.1), ?_, rfl, rfl, rfl, rfl, ⟨rfl, rfl⟩, rfl, rfl, rfl, rfl, rfl, ⟨rfl, rfl⟩, rfl, rfl⟩⟩⟩)⟩, fun h0 => ⟨x.P, fun m => ⟨?_, fun _ _ => ⟨fun h1 => ⟨by omega, .inr ⟨⟨(x.P + 7) / 8, x.bits, x.num, .slice none 0 0, 0, (x.P : Int) - 8 * ((x.P + 7) / 8 : Nat), x.num, x.pos, x.bv, x.bn, x.arr, -1⟩, ⟨?_, ?_, ?_⟩, ?_, rfl, rfl, ⟨rfl, rfl⟩, rfl, rfl, rfl, rfl, rfl, ⟨rfl, rfl⟩, rfl⟩⟩, fun h1 => ⟨by omega, hroom, by omega, by omega, .inl ⟨(⟨(x.P + 7) / 8 + min (x.bs.length - (x.P + 7) / 8) (b.hi - b.lo), x.bits, x.num, .slice none 0 0, 0, (x.P : Int) - 8 * ((x.P + 7) / 8 : Nat), x.num, x.pos, x.bv, x.bn, x.arr, -1⟩, min (x.bs.length - (x.P + 7) / 8) (b.hi - b.lo)), read_direct h (by omega) rfl (by omega) ?_, rfl, by dsimp only; omega, rfl, rfl, ⟨rfl, rfl⟩, rfl, rfl, by dsimp only; omega, rfl, rfl, ⟨rfl, rfl⟩, rfl, ?_⟩⟩⟩⟩⟩⟩
  · have := (h.ok (by omega)).l.bk
    simpa using this
  · rw [List.take_zero, putAt_nil]
  · have hy1 : y.1 ≤ b.hi - b.lo := hy.1
    have hy2 : 8 * y.1 ≤ x.num := hy.2.1
    have hy3 : bkOK (x.W / 2 ^ (8 * y.1)) y.2 (x.num - 8 * y.1) := hy.2.2
    obtain ⟨z, hz⟩ : ∃ z, (x.bs.drop (x.P / 8))[y.1]? = some z := ⟨_, List.getElem?_eq_getElem (by rw [List.length_drop]; omega)⟩
    have hzb : z < 256 := hw.bytes z (List.mem_of_mem_drop (List.mem_of_getElem? hz))
    have e1 := byte_at hP hy3 (by omega) hz
    have e2 := bk_step hy3 (by omega)
    have el : (putAt b.l b.lo (List.take y.1 (List.drop (x.P / 8) x.bs))).length = b.l.length := putAt_length (by rw [List.length_take]; omega)
    have e4 := wr8 y.2
    have e5 : shrI IntKind.u64 (y.2 : Int) 8 = ((y.2 / 2 ^ 8 : Nat) : Int) := shrN .u64 y.2 8
    have e6 : IntKind.u64.wrap (((x.num - 8 * y.1 : Nat) : Int) - 8) = ((x.num - 8 * (y.1 + 1) : Nat) : Int) := by
      rw [show ((x.num - 8 * y.1 : Nat) : Int) - 8 = ((x.num - 8 * (y.1 + 1) : Nat) : Int) by omega]
      exact wrId rfl (by simp only [IntKind.bits]; omega)
    rw [el, e4, e5, e6]
    refine br_mk (fun hb m3 => ⟨?_, ?_, fun _ _ => ⟨⟨by omega, by omega⟩, by omega, by omega, by omega, (y.1 + 1, y.2 / 2 ^ 8), ⟨⟨by dsimp only; omega, by dsimp only; omega, e2⟩, by dsimp only; omega⟩, rfl, rfl, rfl, ?_⟩⟩) (fun hb => ⟨⟨by omega, by omega⟩, by omega, by omega, by omega, (y.1 + 1, y.2 / 2 ^ 8), ⟨⟨by dsimp only; omega, by dsimp only; omega, e2⟩, by dsimp only; omega⟩, rfl, rfl, rfl, ?_⟩)
    · omega
    · omega
    · have e7 : ((y.2 : Int) % 256).toNat = y.2 % 256 := by omega
      rw [e7, e1, hb, byte_twice ⟨z, hzb⟩]
      exact putAt_set hz (by omega)
    · have e7 : (y.2 : Int) % 256 = ((y.2 % 256 : Nat) : Int) := by omega
      rw [e7, e1, hb, byte_num ⟨z, hzb⟩]
      exact putAt_set hz (by omega)
  · exact fin (by omega) y hy (fun h3 => by omega)
  · exact fin (by omega) y hy (fun h3 => by omega)
  · exact ⟨hw.bytes, hw.len, hw.n, hw.al, hw.end_, hw.off, hw.pos, hw.arr, hw.pk, hw.bv, hw.cov, hw.dis, hw.fed⟩
  · have := rs_read hw (by omega) hP (n := 0) (by omega) (dis := (x.P : Int) - 8 * ((x.P + 7) / 8 : Nat)) (by omega) (bits := x.bits) (prev := -1)
    exact this
  · omega
  · omega
  · dsimp only; omega
  · omega
  · rw [show (x.P + 7) / 8 = x.P / 8 by omega]
    have e8 : (List.take (min (x.bs.length - x.P / 8) (b.hi - b.lo)) (List.drop (x.P / 8) x.bs)).length = min (x.bs.length - x.P / 8) (b.hi - b.lo) := by rw [List.length_take, List.length_drop]; omega
    unfold putAt
    dsimp only
    rw [e8]
    simp only [ints, List.map_take]
theorem b230_ok (G : Gl) : ∀ f pt, b230 f = some pt → SpecOK (CC G) f pt := by
  intro f pt h
  unfold b230 at h
  split at h
  · cases h; exact exPT_ok 0 fun P => loc_ok (s80 G P) _
  · cases h; exact loc_ok (s164 G) _
  · cases h
theorem s230 (G : Gl) (P : Nat) : SpecOK (CC G) 230 (c230 G P).pt := specH G 4 (b230_ok G) (fn := Tryz.f230) rfl NA (c230 G P) (fun x => a230 x.1 x.2) fun ⟨x, b⟩ h => Met.of (eq_c230 G P x b) (ok_c230 G P x b h)
end Pc
/-
  ReadAtLeast does what its contract says.
-/
set_option linter.unusedVariables false
set_option maxRecDepth 100000
open Go Go.Vg Go.Proofs
namespace Pc
def cond_c145 (G : Gl) (P : Nat) (x : RS) (bx : Value) (l : List Int) : Prop :=
 Br (decide ((↑(List.length l) : Int) < (↑(List.length l) : Int)))
 (((∃ x1 : (RV), (full145 x (List.length l) x1) ∧ 
 ((0 : Int) = (↑(List.length l) : Int)) ∧ 
 (errV (Gl.S G) = Value.nilIface) ∧ 
 (x.m = x.m) ∧ 
 (relLe x.rel x.rel) ∧ 
 (x.rb = x.rb) ∧ 
 ((x.off : Int) = (x1.off : Int)) ∧ 
 (x.sb = x.sb ∧ Off.lit 0 = Off.lit 0) ∧ 
 (Value.nilIface = Value.nilIface) ∧ (x.bb = x.bb ∧ Off.lit 0 = Off.lit 0) ∧ 
 ((x.bits : Int) = (x1.bits : Int)) ∧ 
 ((x.num : Int) = (x1.num : Int)) ∧ 
 (x.big = x.big) ∧ 
 (x.pk = x1.pk ∧ x.pkn = x1.pkn) ∧ 
 (x.dis = x1.dis) ∧ 
 ((x.fed : Int) = (x1.fed : Int)) ∧ 
 (Value.pointer none = Value.pointer none) ∧ (x.bb = x.bb ∧ Off.lit 0 = Off.lit 0) ∧ 
 (Value.pointer none = Value.pointer none) ∧ (x.sb = x.sb) ∧ 
 (x.vs = x.vs ∧ ints x.bs = ints x.bs) ∧ 
 ((x.off : Int) = (x1.off : Int)) ∧ 
 (x.prev = x1.prev) ∧ 
 (x.bb = x.bb) ∧ 
 (x.sb = x.sb ∧ Off.lit 0 = Off.lit 0) ∧ 
 ((x.pos : Int) = (x1.pos : Int)) ∧ 
 (x.bv = x1.bv ∧ x.bn = x1.bn) ∧ 
 ((512 : Nat) = (512 : Nat) ∧ x.arr = x1.arr) ∧ 
 (bx = bx ∧ l = ints (List.take (List.length l) (List.drop (RS.P x / (8 : Nat)) x.bs))) ∧ 
 (True)) ∨
 (∃ x1 : (RV × Nat × Addr × List Int), (ends145 x l x1.1 (x1.2.1) (Prod.snd (x1.2.2))) ∧ 
 ((0 : Int) = (↑(x1.2.1) : Int)) ∧ 
 (errV (Gl.S G) = errV (Prod.fst (x1.2.2))) ∧ 
 (x.m = x.m) ∧ 
 (relLe x.rel x.rel) ∧ 
 (x.rb = x.rb) ∧ 
 ((x.off : Int) = (x1.1.off : Int)) ∧ 
 (x.sb = x.sb ∧ Off.lit 0 = Off.lit 0) ∧ 
 (Value.nilIface = Value.nilIface) ∧ (x.bb = x.bb ∧ Off.lit 0 = Off.lit 0) ∧ 
 ((x.bits : Int) = (x1.1.bits : Int)) ∧ 
 ((x.num : Int) = (x1.1.num : Int)) ∧ 
 (x.big = x.big) ∧ 
 (x.pk = x1.1.pk ∧ x.pkn = x1.1.pkn) ∧ 
 (x.dis = x1.1.dis) ∧ 
 ((x.fed : Int) = (x1.1.fed : Int)) ∧ 
 (Value.pointer none = Value.pointer none) ∧ (x.bb = x.bb ∧ Off.lit 0 = Off.lit 0) ∧ 
 (Value.pointer none = Value.pointer none) ∧ (x.sb = x.sb) ∧ 
 (x.vs = x.vs ∧ ints x.bs = ints x.bs) ∧ 
 ((x.off : Int) = (x1.1.off : Int)) ∧ 
 (x.prev = x1.1.prev) ∧ 
 (x.bb = x.bb) ∧ 
 (x.sb = x.sb ∧ Off.lit 0 = Off.lit 0) ∧ 
 ((x.pos : Int) = (x1.1.pos : Int)) ∧ 
 (x.bv = x1.1.bv ∧ x.bn = x1.1.bn) ∧ 
 ((512 : Nat) = (512 : Nat) ∧ x.arr = x1.1.arr) ∧ 
 (bx = bx ∧ l = Prod.snd (x1.2.2)) ∧ 
 (True))))
 (∃ x1 : (RV × Nat), (at145 x l x1.1 x1.2) ∧ 
 ((0 : Int) = (x1.2 : Int)) ∧ 
 (Value.nilIface = Value.nilIface) ∧ (x.m = x.m) ∧ (relLe x.rel x.rel) ∧ 
 (x.rb = x.rb) ∧ 
 ((x.off : Int) = (x1.1.off : Int)) ∧ 
 (x.sb = x.sb ∧ Off.lit 0 = Off.lit 0) ∧ 
 (Value.nilIface = Value.nilIface) ∧ (x.bb = x.bb ∧ Off.lit 0 = Off.lit 0) ∧ 
 ((x.bits : Int) = (x1.1.bits : Int)) ∧ 
 ((x.num : Int) = (x1.1.num : Int)) ∧ 
 (x.big = x.big) ∧ 
 (x.pk = x1.1.pk ∧ x.pkn = x1.1.pkn) ∧ 
 (x.dis = x1.1.dis) ∧ 
 ((x.fed : Int) = (x1.1.fed : Int)) ∧ 
 (Value.pointer none = Value.pointer none) ∧ (x.bb = x.bb ∧ Off.lit 0 = Off.lit 0) ∧ 
 (Value.pointer none = Value.pointer none) ∧ (x.sb = x.sb) ∧ 
 (x.vs = x.vs ∧ ints x.bs = ints x.bs) ∧ 
 ((x.off : Int) = (x1.1.off : Int)) ∧ 
 (x.prev = x1.1.prev) ∧ 
 (x.bb = x.bb) ∧ 
 (x.sb = x.sb ∧ Off.lit 0 = Off.lit 0) ∧ 
 ((x.pos : Int) = (x1.1.pos : Int)) ∧ 
 (x.bv = x1.1.bv ∧ x.bn = x1.1.bn) ∧ 
 ((512 : Nat) = (512 : Nat) ∧ x.arr = x1.1.arr) ∧ 
 (bx = bx ∧ l = putAt l 0 (List.take x1.2 (List.drop (RS.P x / (8 : Nat)) x.bs))) ∧ 
 ∀ x2 : (RV × Nat), ((at145 x l x2.1 x2.2) → 
 Br (decide ((x2.2 : Int) < (↑(List.length l) : Int)))
 ((bx = bx) ∧ 
 (List.length l = List.length (putAt l 0 (List.take x2.2 (List.drop (RS.P x / (8 : Nat)) x.bs))) ∧ (0 : Int) ≤ (x2.2 : Int) ∧ (x2.2 : Int) ≤ (↑(List.length l) : Int) ∧ (↑(List.length l) : Int) ≤ (↑(List.length l) : Int)) ∧ 
 ∃ x3 : (Nat), ∀ x4 : (Nat → Option Obj), (c230OK (RS.mk x4 x.rel x.rb x.sb x.bb x.vs (nats (ints x.bs)) x.big x3 (Int.toNat (x2.1.off : Int)) (Int.toNat (x2.1.bits : Int)) (Int.toNat (x2.1.num : Int)) x2.1.pk x2.1.pkn x2.1.dis (Int.toNat (x2.1.fed : Int)) (Int.toNat (x2.1.pos : Int)) x2.1.bv x2.1.bn x2.1.arr x2.1.prev) (BF.mk bx (putAt l 0 (List.take x2.2 (List.drop (RS.P x / (8 : Nat)) x.bs))) (Int.toNat (x2.2 : Int)) (Int.toNat (↑(List.length l) : Int)) (sliceVal bx (Int.toNat (x2.2 : Int)) (Int.toNat (↑(List.length l) : Int)) 1))) ∧ 
 (x.rb = x.rb ∧ Off.lit 0 = Off.lit 0) ∧ 
 (bx = bx ∧ Int.toNat (x2.2 : Int) = Int.toNat (x2.2 : Int) ∧ Int.toNat (↑(List.length l) : Int) = Int.toNat (↑(List.length l) : Int) ∧ sliceVal bx (Int.toNat (x2.2 : Int)) (Int.toNat (↑(List.length l) : Int)) 1 = sliceVal bx (Int.toNat (x2.2 : Int)) (Int.toNat (↑(List.length l) : Int)) 1) ∧ 
 (x4 = x4) ∧ 
 (relLe x.rel x.rel) ∧ 
 (x.rb = x.rb) ∧ 
 ((x2.1.off : Int) = (↑(Int.toNat (x2.1.off : Int)) : Int)) ∧ 
 (x.sb = x.sb ∧ Off.lit 0 = Off.lit 0) ∧ 
 (Value.nilIface = Value.nilIface) ∧ (x.bb = x.bb ∧ Off.lit 0 = Off.lit 0) ∧ 
 ((x2.1.bits : Int) = (↑(Int.toNat (x2.1.bits : Int)) : Int)) ∧ 
 ((x2.1.num : Int) = (↑(Int.toNat (x2.1.num : Int)) : Int)) ∧ 
 (x.big = x.big) ∧ 
 (x2.1.pk = x2.1.pk ∧ x2.1.pkn = x2.1.pkn) ∧ 
 (x2.1.dis = x2.1.dis) ∧ 
 ((x2.1.fed : Int) = (↑(Int.toNat (x2.1.fed : Int)) : Int)) ∧ 
 (Value.pointer none = Value.pointer none) ∧ (x.bb = x.bb ∧ Off.lit 0 = Off.lit 0) ∧ 
 (Value.pointer none = Value.pointer none) ∧ (x.sb = x.sb) ∧ 
 (x.vs = x.vs ∧ ints x.bs = ints (nats (ints x.bs))) ∧ 
 ((x2.1.off : Int) = (↑(Int.toNat (x2.1.off : Int)) : Int)) ∧ 
 (x2.1.prev = x2.1.prev) ∧ 
 (x.bb = x.bb) ∧ 
 (x.sb = x.sb ∧ Off.lit 0 = Off.lit 0) ∧ 
 ((x2.1.pos : Int) = (↑(Int.toNat (x2.1.pos : Int)) : Int)) ∧ 
 (x2.1.bv = x2.1.bv ∧ x2.1.bn = x2.1.bn) ∧ 
 ((512 : Nat) = (512 : Nat) ∧ x2.1.arr = x2.1.arr) ∧ 
 (bx = bx ∧ putAt l 0 (List.take x2.2 (List.drop (RS.P x / (8 : Nat)) x.bs)) = putAt l 0 (List.take x2.2 (List.drop (RS.P x / (8 : Nat)) x.bs))) ∧ 
 (∀ x5 : (RV × Nat), ((read230 (RS.mk x4 x.rel x.rb x.sb x.bb x.vs (nats (ints x.bs)) x.big x3 (Int.toNat (x2.1.off : Int)) (Int.toNat (x2.1.bits : Int)) (Int.toNat (x2.1.num : Int)) x2.1.pk x2.1.pkn x2.1.dis (Int.toNat (x2.1.fed : Int)) (Int.toNat (x2.1.pos : Int)) x2.1.bv x2.1.bn x2.1.arr x2.1.prev) (BF.mk bx (putAt l 0 (List.take x2.2 (List.drop (RS.P x / (8 : Nat)) x.bs))) (Int.toNat (x2.2 : Int)) (Int.toNat (↑(List.length l) : Int)) (sliceVal bx (Int.toNat (x2.2 : Int)) (Int.toNat (↑(List.length l) : Int)) 1)) x5.1 x5.2) → 
 (x4 = x4) ∧ 
 (inI64 ((x2.2 : Int) + (x5.2 : Int))) ∧ 
 ∃ x6 : (RV × Nat), (at145 x l x6.1 x6.2 ∧ List.length l - x6.2 < List.length l - x2.2) ∧ 
 ((x2.2 : Int) + (x5.2 : Int) = (x6.2 : Int)) ∧ 
 (Value.nilIface = Value.nilIface) ∧ (x.m = x.m) ∧ (relLe x.rel x.rel) ∧ 
 (x.rb = x.rb) ∧ 
 ((x5.1.off : Int) = (x6.1.off : Int)) ∧ 
 (x.sb = x.sb ∧ Off.lit 0 = Off.lit 0) ∧ 
 (Value.nilIface = Value.nilIface) ∧ (x.bb = x.bb ∧ Off.lit 0 = Off.lit 0) ∧ 
 ((x5.1.bits : Int) = (x6.1.bits : Int)) ∧ 
 ((x5.1.num : Int) = (x6.1.num : Int)) ∧ 
 (x.big = x.big) ∧ 
 (x5.1.pk = x6.1.pk ∧ x5.1.pkn = x6.1.pkn) ∧ 
 (x5.1.dis = x6.1.dis) ∧ 
 ((x5.1.fed : Int) = (x6.1.fed : Int)) ∧ 
 (Value.pointer none = Value.pointer none) ∧ (x.bb = x.bb ∧ Off.lit 0 = Off.lit 0) ∧ 
 (Value.pointer none = Value.pointer none) ∧ (x.sb = x.sb) ∧ 
 (x.vs = x.vs ∧ ints (nats (ints x.bs)) = ints x.bs) ∧ 
 ((x5.1.off : Int) = (x6.1.off : Int)) ∧ 
 (x5.1.prev = x6.1.prev) ∧ 
 (x.bb = x.bb) ∧ 
 (x.sb = x.sb ∧ Off.lit 0 = Off.lit 0) ∧ 
 ((x5.1.pos : Int) = (x6.1.pos : Int)) ∧ 
 (x5.1.bv = x6.1.bv ∧ x5.1.bn = x6.1.bn) ∧ 
 ((512 : Nat) = (512 : Nat) ∧ x5.1.arr = x6.1.arr) ∧ 
 (bx = bx ∧ putAt (putAt l 0 (List.take x2.2 (List.drop (RS.P x / (8 : Nat)) x.bs))) (Int.toNat (x2.2 : Int)) (List.take x5.2 (List.drop (x3 / (8 : Nat)) (nats (ints x.bs)))) = putAt l 0 (List.take x6.2 (List.drop (RS.P x / (8 : Nat)) x.bs))) ∧ 
 (True))) ∧
 (∀ x5 : (RV), ((eof230 (RS.mk x4 x.rel x.rb x.sb x.bb x.vs (nats (ints x.bs)) x.big x3 (Int.toNat (x2.1.off : Int)) (Int.toNat (x2.1.bits : Int)) (Int.toNat (x2.1.num : Int)) x2.1.pk x2.1.pkn x2.1.dis (Int.toNat (x2.1.fed : Int)) (Int.toNat (x2.1.pos : Int)) x2.1.bv x2.1.bn x2.1.arr x2.1.prev) x5) → 
 (x4 = x4) ∧ 
 (inI64 ((x2.2 : Int) + (0 : Int))) ∧ 
 Br (decide ((x2.2 : Int) + (0 : Int) < (↑(List.length l) : Int)))
 (Br (decide ((x2.2 : Int) + (0 : Int) ≥ (↑(List.length l) : Int)))
 (((∃ x6 : (RV), (full145 x (List.length l) x6) ∧ 
 ((x2.2 : Int) + (0 : Int) = (↑(List.length l) : Int)) ∧ 
 (Value.nilIface = Value.nilIface) ∧ (x.m = x.m) ∧ 
 (relLe x.rel x.rel) ∧ 
 (x.rb = x.rb) ∧ 
 ((x5.off : Int) = (x6.off : Int)) ∧ 
 (x.sb = x.sb ∧ Off.lit 0 = Off.lit 0) ∧ 
 (Value.nilIface = Value.nilIface) ∧ (x.bb = x.bb ∧ Off.lit 0 = Off.lit 0) ∧ 
 ((x5.bits : Int) = (x6.bits : Int)) ∧ 
 ((x5.num : Int) = (x6.num : Int)) ∧ 
 (x.big = x.big) ∧ 
 (x5.pk = x6.pk ∧ x5.pkn = x6.pkn) ∧ 
 (x5.dis = x6.dis) ∧ 
 ((x5.fed : Int) = (x6.fed : Int)) ∧ 
 (Value.pointer none = Value.pointer none) ∧ (x.bb = x.bb ∧ Off.lit 0 = Off.lit 0) ∧ 
 (Value.pointer none = Value.pointer none) ∧ (x.sb = x.sb) ∧ 
 (x.vs = x.vs ∧ ints (nats (ints x.bs)) = ints x.bs) ∧ 
 ((x5.off : Int) = (x6.off : Int)) ∧ 
 (x5.prev = x6.prev) ∧ 
 (x.bb = x.bb) ∧ 
 (x.sb = x.sb ∧ Off.lit 0 = Off.lit 0) ∧ 
 ((x5.pos : Int) = (x6.pos : Int)) ∧ 
 (x5.bv = x6.bv ∧ x5.bn = x6.bn) ∧ 
 ((512 : Nat) = (512 : Nat) ∧ x5.arr = x6.arr) ∧ 
 (bx = bx ∧ putAt l 0 (List.take x2.2 (List.drop (RS.P x / (8 : Nat)) x.bs)) = ints (List.take (List.length l) (List.drop (RS.P x / (8 : Nat)) x.bs))) ∧ 
 (True)) ∨
 (∃ x6 : (RV × Nat × Addr × List Int), (ends145 x l x6.1 (x6.2.1) (Prod.snd (x6.2.2))) ∧ 
 ((x2.2 : Int) + (0 : Int) = (↑(x6.2.1) : Int)) ∧ 
 (Value.nilIface = errV (Prod.fst (x6.2.2))) ∧ 
 (x.m = x.m) ∧ 
 (relLe x.rel x.rel) ∧ 
 (x.rb = x.rb) ∧ 
 ((x5.off : Int) = (x6.1.off : Int)) ∧ 
 (x.sb = x.sb ∧ Off.lit 0 = Off.lit 0) ∧ 
 (Value.nilIface = Value.nilIface) ∧ (x.bb = x.bb ∧ Off.lit 0 = Off.lit 0) ∧ 
 ((x5.bits : Int) = (x6.1.bits : Int)) ∧ 
 ((x5.num : Int) = (x6.1.num : Int)) ∧ 
 (x.big = x.big) ∧ 
 (x5.pk = x6.1.pk ∧ x5.pkn = x6.1.pkn) ∧ 
 (x5.dis = x6.1.dis) ∧ 
 ((x5.fed : Int) = (x6.1.fed : Int)) ∧ 
 (Value.pointer none = Value.pointer none) ∧ (x.bb = x.bb ∧ Off.lit 0 = Off.lit 0) ∧ 
 (Value.pointer none = Value.pointer none) ∧ (x.sb = x.sb) ∧ 
 (x.vs = x.vs ∧ ints (nats (ints x.bs)) = ints x.bs) ∧ 
 ((x5.off : Int) = (x6.1.off : Int)) ∧ 
 (x5.prev = x6.1.prev) ∧ 
 (x.bb = x.bb) ∧ 
 (x.sb = x.sb ∧ Off.lit 0 = Off.lit 0) ∧ 
 ((x5.pos : Int) = (x6.1.pos : Int)) ∧ 
 (x5.bv = x6.1.bv ∧ x5.bn = x6.1.bn) ∧ 
 ((512 : Nat) = (512 : Nat) ∧ x5.arr = x6.1.arr) ∧ 
 (bx = bx ∧ putAt l 0 (List.take x2.2 (List.drop (RS.P x / (8 : Nat)) x.bs)) = Prod.snd (x6.2.2)) ∧ 
 (True))))
 (Br (decide ((x2.2 : Int) + (0 : Int) > (0 : Int)))
 ((Gl.E G = Gl.E G) ∧ ((∃ x6 : (RV), (full145 x (List.length l) x6) ∧ 
 ((x2.2 : Int) + (0 : Int) = (↑(List.length l) : Int)) ∧ 
 (errV (Gl.U G) = Value.nilIface) ∧ 
 (x.m = x.m) ∧ 
 (relLe x.rel x.rel) ∧ 
 (x.rb = x.rb) ∧ 
 ((x5.off : Int) = (x6.off : Int)) ∧ 
 (x.sb = x.sb ∧ Off.lit 0 = Off.lit 0) ∧ 
 (Value.nilIface = Value.nilIface) ∧ (x.bb = x.bb ∧ Off.lit 0 = Off.lit 0) ∧ 
 ((x5.bits : Int) = (x6.bits : Int)) ∧ 
 ((x5.num : Int) = (x6.num : Int)) ∧ 
 (x.big = x.big) ∧ 
 (x5.pk = x6.pk ∧ x5.pkn = x6.pkn) ∧ 
 (x5.dis = x6.dis) ∧ 
 ((x5.fed : Int) = (x6.fed : Int)) ∧ 
 (Value.pointer none = Value.pointer none) ∧ (x.bb = x.bb ∧ Off.lit 0 = Off.lit 0) ∧ 
 (Value.pointer none = Value.pointer none) ∧ (x.sb = x.sb) ∧ 
 (x.vs = x.vs ∧ ints (nats (ints x.bs)) = ints x.bs) ∧ 
 ((x5.off : Int) = (x6.off : Int)) ∧ 
 (x5.prev = x6.prev) ∧ 
 (x.bb = x.bb) ∧ 
 (x.sb = x.sb ∧ Off.lit 0 = Off.lit 0) ∧ 
 ((x5.pos : Int) = (x6.pos : Int)) ∧ 
 (x5.bv = x6.bv ∧ x5.bn = x6.bn) ∧ 
 ((512 : Nat) = (512 : Nat) ∧ x5.arr = x6.arr) ∧ 
 (bx = bx ∧ putAt l 0 (List.take x2.2 (List.drop (RS.P x / (8 : Nat)) x.bs)) = ints (List.take (List.length l) (List.drop (RS.P x / (8 : Nat)) x.bs))) ∧ 
 (True)) ∨
 (∃ x6 : (RV × Nat × Addr × List Int), (ends145 x l x6.1 (x6.2.1) (Prod.snd (x6.2.2))) ∧ 
 ((x2.2 : Int) + (0 : Int) = (↑(x6.2.1) : Int)) ∧ 
 (errV (Gl.U G) = errV (Prod.fst (x6.2.2))) ∧ 
 (x.m = x.m) ∧ 
 (relLe x.rel x.rel) ∧ 
 (x.rb = x.rb) ∧ 
 ((x5.off : Int) = (x6.1.off : Int)) ∧ 
 (x.sb = x.sb ∧ Off.lit 0 = Off.lit 0) ∧ 
 (Value.nilIface = Value.nilIface) ∧ (x.bb = x.bb ∧ Off.lit 0 = Off.lit 0) ∧ 
 ((x5.bits : Int) = (x6.1.bits : Int)) ∧ 
 ((x5.num : Int) = (x6.1.num : Int)) ∧ 
 (x.big = x.big) ∧ 
 (x5.pk = x6.1.pk ∧ x5.pkn = x6.1.pkn) ∧ 
 (x5.dis = x6.1.dis) ∧ 
 ((x5.fed : Int) = (x6.1.fed : Int)) ∧ 
 (Value.pointer none = Value.pointer none) ∧ (x.bb = x.bb ∧ Off.lit 0 = Off.lit 0) ∧ 
 (Value.pointer none = Value.pointer none) ∧ (x.sb = x.sb) ∧ 
 (x.vs = x.vs ∧ ints (nats (ints x.bs)) = ints x.bs) ∧ 
 ((x5.off : Int) = (x6.1.off : Int)) ∧ 
 (x5.prev = x6.1.prev) ∧ 
 (x.bb = x.bb) ∧ 
 (x.sb = x.sb ∧ Off.lit 0 = Off.lit 0) ∧ 
 ((x5.pos : Int) = (x6.1.pos : Int)) ∧ 
 (x5.bv = x6.1.bv ∧ x5.bn = x6.1.bn) ∧ 
 ((512 : Nat) = (512 : Nat) ∧ x5.arr = x6.1.arr) ∧ 
 (bx = bx ∧ putAt l 0 (List.take x2.2 (List.drop (RS.P x / (8 : Nat)) x.bs)) = Prod.snd (x6.2.2)) ∧ 
 (True))))
 (((∃ x6 : (RV), (full145 x (List.length l) x6) ∧ 
 ((x2.2 : Int) + (0 : Int) = (↑(List.length l) : Int)) ∧ 
 (errV (Gl.E G) = Value.nilIface) ∧ 
 (x.m = x.m) ∧ 
 (relLe x.rel x.rel) ∧ 
 (x.rb = x.rb) ∧ 
 ((x5.off : Int) = (x6.off : Int)) ∧ 
 (x.sb = x.sb ∧ Off.lit 0 = Off.lit 0) ∧ 
 (Value.nilIface = Value.nilIface) ∧ (x.bb = x.bb ∧ Off.lit 0 = Off.lit 0) ∧ 
 ((x5.bits : Int) = (x6.bits : Int)) ∧ 
 ((x5.num : Int) = (x6.num : Int)) ∧ 
 (x.big = x.big) ∧ 
 (x5.pk = x6.pk ∧ x5.pkn = x6.pkn) ∧ 
 (x5.dis = x6.dis) ∧ 
 ((x5.fed : Int) = (x6.fed : Int)) ∧ 
 (Value.pointer none = Value.pointer none) ∧ (x.bb = x.bb ∧ Off.lit 0 = Off.lit 0) ∧ 
 (Value.pointer none = Value.pointer none) ∧ (x.sb = x.sb) ∧ 
 (x.vs = x.vs ∧ ints (nats (ints x.bs)) = ints x.bs) ∧ 
 ((x5.off : Int) = (x6.off : Int)) ∧ 
 (x5.prev = x6.prev) ∧ 
 (x.bb = x.bb) ∧ 
 (x.sb = x.sb ∧ Off.lit 0 = Off.lit 0) ∧ 
 ((x5.pos : Int) = (x6.pos : Int)) ∧ 
 (x5.bv = x6.bv ∧ x5.bn = x6.bn) ∧ 
 ((512 : Nat) = (512 : Nat) ∧ x5.arr = x6.arr) ∧ 
 (bx = bx ∧ putAt l 0 (List.take x2.2 (List.drop (RS.P x / (8 : Nat)) x.bs)) = ints (List.take (List.length l) (List.drop (RS.P x / (8 : Nat)) x.bs))) ∧ 
 (True)) ∨
 (∃ x6 : (RV × Nat × Addr × List Int), (ends145 x l x6.1 (x6.2.1) (Prod.snd (x6.2.2))) ∧ 
 ((x2.2 : Int) + (0 : Int) = (↑(x6.2.1) : Int)) ∧ 
 (errV (Gl.E G) = errV (Prod.fst (x6.2.2))) ∧ 
 (x.m = x.m) ∧ 
 (relLe x.rel x.rel) ∧ 
 (x.rb = x.rb) ∧ 
 ((x5.off : Int) = (x6.1.off : Int)) ∧ 
 (x.sb = x.sb ∧ Off.lit 0 = Off.lit 0) ∧ 
 (Value.nilIface = Value.nilIface) ∧ (x.bb = x.bb ∧ Off.lit 0 = Off.lit 0) ∧ 
 ((x5.bits : Int) = (x6.1.bits : Int)) ∧ 
 ((x5.num : Int) = (x6.1.num : Int)) ∧ 
 (x.big = x.big) ∧ 
 (x5.pk = x6.1.pk ∧ x5.pkn = x6.1.pkn) ∧ 
 (x5.dis = x6.1.dis) ∧ 
 ((x5.fed : Int) = (x6.1.fed : Int)) ∧ 
 (Value.pointer none = Value.pointer none) ∧ (x.bb = x.bb ∧ Off.lit 0 = Off.lit 0) ∧ 
 (Value.pointer none = Value.pointer none) ∧ (x.sb = x.sb) ∧ 
 (x.vs = x.vs ∧ ints (nats (ints x.bs)) = ints x.bs) ∧ 
 ((x5.off : Int) = (x6.1.off : Int)) ∧ 
 (x5.prev = x6.1.prev) ∧ 
 (x.bb = x.bb) ∧ 
 (x.sb = x.sb ∧ Off.lit 0 = Off.lit 0) ∧ 
 ((x5.pos : Int) = (x6.1.pos : Int)) ∧ 
 (x5.bv = x6.1.bv ∧ x5.bn = x6.1.bn) ∧ 
 ((512 : Nat) = (512 : Nat) ∧ x5.arr = x6.1.arr) ∧ 
 (bx = bx ∧ putAt l 0 (List.take x2.2 (List.drop (RS.P x / (8 : Nat)) x.bs)) = Prod.snd (x6.2.2)) ∧ 
 (True))))))
 (Br (decide ((x2.2 : Int) + (0 : Int) ≥ (↑(List.length l) : Int)))
 (((∃ x6 : (RV), (full145 x (List.length l) x6) ∧ 
 ((x2.2 : Int) + (0 : Int) = (↑(List.length l) : Int)) ∧ 
 (Value.nilIface = Value.nilIface) ∧ (x.m = x.m) ∧ 
 (relLe x.rel x.rel) ∧ 
 (x.rb = x.rb) ∧ 
 ((x5.off : Int) = (x6.off : Int)) ∧ 
 (x.sb = x.sb ∧ Off.lit 0 = Off.lit 0) ∧ 
 (Value.nilIface = Value.nilIface) ∧ (x.bb = x.bb ∧ Off.lit 0 = Off.lit 0) ∧ 
 ((x5.bits : Int) = (x6.bits : Int)) ∧ 
 ((x5.num : Int) = (x6.num : Int)) ∧ 
 (x.big = x.big) ∧ 
 (x5.pk = x6.pk ∧ x5.pkn = x6.pkn) ∧ 
 (x5.dis = x6.dis) ∧ 
 ((x5.fed : Int) = (x6.fed : Int)) ∧ 
 (Value.pointer none = Value.pointer none) ∧ (x.bb = x.bb ∧ Off.lit 0 = Off.lit 0) ∧ 
 (Value.pointer none = Value.pointer none) ∧ (x.sb = x.sb) ∧ 
 (x.vs = x.vs ∧ ints (nats (ints x.bs)) = ints x.bs) ∧ 
 ((x5.off : Int) = (x6.off : Int)) ∧ 
 (x5.prev = x6.prev) ∧ 
 (x.bb = x.bb) ∧ 
 (x.sb = x.sb ∧ Off.lit 0 = Off.lit 0) ∧ 
 ((x5.pos : Int) = (x6.pos : Int)) ∧ 
 (x5.bv = x6.bv ∧ x5.bn = x6.bn) ∧ 
 ((512 : Nat) = (512 : Nat) ∧ x5.arr = x6.arr) ∧ 
 (bx = bx ∧ putAt l 0 (List.take x2.2 (List.drop (RS.P x / (8 : Nat)) x.bs)) = ints (List.take (List.length l) (List.drop (RS.P x / (8 : Nat)) x.bs))) ∧ 
 (True)) ∨
 (∃ x6 : (RV × Nat × Addr × List Int), (ends145 x l x6.1 (x6.2.1) (Prod.snd (x6.2.2))) ∧ 
 ((x2.2 : Int) + (0 : Int) = (↑(x6.2.1) : Int)) ∧ 
 (Value.nilIface = errV (Prod.fst (x6.2.2))) ∧ 
 (x.m = x.m) ∧ 
 (relLe x.rel x.rel) ∧ 
 (x.rb = x.rb) ∧ 
 ((x5.off : Int) = (x6.1.off : Int)) ∧ 
 (x.sb = x.sb ∧ Off.lit 0 = Off.lit 0) ∧ 
 (Value.nilIface = Value.nilIface) ∧ (x.bb = x.bb ∧ Off.lit 0 = Off.lit 0) ∧ 
 ((x5.bits : Int) = (x6.1.bits : Int)) ∧ 
 ((x5.num : Int) = (x6.1.num : Int)) ∧ 
 (x.big = x.big) ∧ 
 (x5.pk = x6.1.pk ∧ x5.pkn = x6.1.pkn) ∧ 
 (x5.dis = x6.1.dis) ∧ 
 ((x5.fed : Int) = (x6.1.fed : Int)) ∧ 
 (Value.pointer none = Value.pointer none) ∧ (x.bb = x.bb ∧ Off.lit 0 = Off.lit 0) ∧ 
 (Value.pointer none = Value.pointer none) ∧ (x.sb = x.sb) ∧ 
 (x.vs = x.vs ∧ ints (nats (ints x.bs)) = ints x.bs) ∧ 
 ((x5.off : Int) = (x6.1.off : Int)) ∧ 
 (x5.prev = x6.1.prev) ∧ 
 (x.bb = x.bb) ∧ 
 (x.sb = x.sb ∧ Off.lit 0 = Off.lit 0) ∧ 
 ((x5.pos : Int) = (x6.1.pos : Int)) ∧ 
 (x5.bv = x6.1.bv ∧ x5.bn = x6.1.bn) ∧ 
 ((512 : Nat) = (512 : Nat) ∧ x5.arr = x6.1.arr) ∧ 
 (bx = bx ∧ putAt l 0 (List.take x2.2 (List.drop (RS.P x / (8 : Nat)) x.bs)) = Prod.snd (x6.2.2)) ∧ 
 (True))))
 (Br (decide ((x2.2 : Int) + (0 : Int) > (0 : Int)))
 ((Gl.E G = Gl.E G) ∧ ((∃ x6 : (RV), (full145 x (List.length l) x6) ∧ 
 ((x2.2 : Int) + (0 : Int) = (↑(List.length l) : Int)) ∧ 
 (errV (Gl.U G) = Value.nilIface) ∧ 
 (x.m = x.m) ∧ 
 (relLe x.rel x.rel) ∧ 
 (x.rb = x.rb) ∧ 
 ((x5.off : Int) = (x6.off : Int)) ∧ 
 (x.sb = x.sb ∧ Off.lit 0 = Off.lit 0) ∧ 
 (Value.nilIface = Value.nilIface) ∧ (x.bb = x.bb ∧ Off.lit 0 = Off.lit 0) ∧ 
 ((x5.bits : Int) = (x6.bits : Int)) ∧ 
 ((x5.num : Int) = (x6.num : Int)) ∧ 
 (x.big = x.big) ∧ 
 (x5.pk = x6.pk ∧ x5.pkn = x6.pkn) ∧ 
 (x5.dis = x6.dis) ∧ 
 ((x5.fed : Int) = (x6.fed : Int)) ∧ 
 (Value.pointer none = Value.pointer none) ∧ (x.bb = x.bb ∧ Off.lit 0 = Off.lit 0) ∧ 
 (Value.pointer none = Value.pointer none) ∧ (x.sb = x.sb) ∧ 
 (x.vs = x.vs ∧ ints (nats (ints x.bs)) = ints x.bs) ∧ 
 ((x5.off : Int) = (x6.off : Int)) ∧ 
 (x5.prev = x6.prev) ∧ 
 (x.bb = x.bb) ∧ 
 (x.sb = x.sb ∧ Off.lit 0 = Off.lit 0) ∧ 
 ((x5.pos : Int) = (x6.pos : Int)) ∧ 
 (x5.bv = x6.bv ∧ x5.bn = x6.bn) ∧ 
 ((512 : Nat) = (512 : Nat) ∧ x5.arr = x6.arr) ∧ 
 (bx = bx ∧ putAt l 0 (List.take x2.2 (List.drop (RS.P x / (8 : Nat)) x.bs)) = ints (List.take (List.length l) (List.drop (RS.P x / (8 : Nat)) x.bs))) ∧ 
 (True)) ∨
 (∃ x6 : (RV × Nat × Addr × List Int), (ends145 x l x6.1 (x6.2.1) (Prod.snd (x6.2.2))) ∧ 
 ((x2.2 : Int) + (0 : Int) = (↑(x6.2.1) : Int)) ∧ 
 (errV (Gl.U G) = errV (Prod.fst (x6.2.2))) ∧ 
 (x.m = x.m) ∧ 
 (relLe x.rel x.rel) ∧ 
 (x.rb = x.rb) ∧ 
 ((x5.off : Int) = (x6.1.off : Int)) ∧ 
 (x.sb = x.sb ∧ Off.lit 0 = Off.lit 0) ∧ 
 (Value.nilIface = Value.nilIface) ∧ (x.bb = x.bb ∧ Off.lit 0 = Off.lit 0) ∧ 
 ((x5.bits : Int) = (x6.1.bits : Int)) ∧ 
 ((x5.num : Int) = (x6.1.num : Int)) ∧ 
 (x.big = x.big) ∧ 
 (x5.pk = x6.1.pk ∧ x5.pkn = x6.1.pkn) ∧ 
 (x5.dis = x6.1.dis) ∧ 
 ((x5.fed : Int) = (x6.1.fed : Int)) ∧ 
 (Value.pointer none = Value.pointer none) ∧ (x.bb = x.bb ∧ Off.lit 0 = Off.lit 0) ∧ 
 (Value.pointer none = Value.pointer none) ∧ (x.sb = x.sb) ∧ 
 (x.vs = x.vs ∧ ints (nats (ints x.bs)) = ints x.bs) ∧ 
 ((x5.off : Int) = (x6.1.off : Int)) ∧ 
 (x5.prev = x6.1.prev) ∧ 
 (x.bb = x.bb) ∧ 
 (x.sb = x.sb ∧ Off.lit 0 = Off.lit 0) ∧ 
 ((x5.pos : Int) = (x6.1.pos : Int)) ∧ 
 (x5.bv = x6.1.bv ∧ x5.bn = x6.1.bn) ∧ 
 ((512 : Nat) = (512 : Nat) ∧ x5.arr = x6.1.arr) ∧ 
 (bx = bx ∧ putAt l 0 (List.take x2.2 (List.drop (RS.P x / (8 : Nat)) x.bs)) = Prod.snd (x6.2.2)) ∧ 
 (True))))
 (((∃ x6 : (RV), (full145 x (List.length l) x6) ∧ 
 ((x2.2 : Int) + (0 : Int) = (↑(List.length l) : Int)) ∧ 
 (errV (Gl.E G) = Value.nilIface) ∧ 
 (x.m = x.m) ∧ 
 (relLe x.rel x.rel) ∧ 
 (x.rb = x.rb) ∧ 
 ((x5.off : Int) = (x6.off : Int)) ∧ 
 (x.sb = x.sb ∧ Off.lit 0 = Off.lit 0) ∧ 
 (Value.nilIface = Value.nilIface) ∧ (x.bb = x.bb ∧ Off.lit 0 = Off.lit 0) ∧ 
 ((x5.bits : Int) = (x6.bits : Int)) ∧ 
 ((x5.num : Int) = (x6.num : Int)) ∧ 
 (x.big = x.big) ∧ 
 (x5.pk = x6.pk ∧ x5.pkn = x6.pkn) ∧ 
 (x5.dis = x6.dis) ∧ 
 ((x5.fed : Int) = (x6.fed : Int)) ∧ 
 (Value.pointer none = Value.pointer none) ∧ (x.bb = x.bb ∧ Off.lit 0 = Off.lit 0) ∧ 
 (Value.pointer none = Value.pointer none) ∧ (x.sb = x.sb) ∧ 
 (x.vs = x.vs ∧ ints (nats (ints x.bs)) = ints x.bs) ∧ 
 ((x5.off : Int) = (x6.off : Int)) ∧ 
 (x5.prev = x6.prev) ∧ 
 (x.bb = x.bb) ∧ 
 (x.sb = x.sb ∧ Off.lit 0 = Off.lit 0) ∧ 
 ((x5.pos : Int) = (x6.pos : Int)) ∧ 
 (x5.bv = x6.bv ∧ x5.bn = x6.bn) ∧ 
 ((512 : Nat) = (512 : Nat) ∧ x5.arr = x6.arr) ∧ 
 (bx = bx ∧ putAt l 0 (List.take x2.2 (List.drop (RS.P x / (8 : Nat)) x.bs)) = ints (List.take (List.length l) (List.drop (RS.P x / (8 : Nat)) x.bs))) ∧ 
 (True)) ∨
 (∃ x6 : (RV × Nat × Addr × List Int), (ends145 x l x6.1 (x6.2.1) (Prod.snd (x6.2.2))) ∧ 
 ((x2.2 : Int) + (0 : Int) = (↑(x6.2.1) : Int)) ∧ 
 (errV (Gl.E G) = errV (Prod.fst (x6.2.2))) ∧ 
 (x.m = x.m) ∧ 
 (relLe x.rel x.rel) ∧ 
 (x.rb = x.rb) ∧ 
 ((x5.off : Int) = (x6.1.off : Int)) ∧ 
 (x.sb = x.sb ∧ Off.lit 0 = Off.lit 0) ∧ 
 (Value.nilIface = Value.nilIface) ∧ (x.bb = x.bb ∧ Off.lit 0 = Off.lit 0) ∧ 
 ((x5.bits : Int) = (x6.1.bits : Int)) ∧ 
 ((x5.num : Int) = (x6.1.num : Int)) ∧ 
 (x.big = x.big) ∧ 
 (x5.pk = x6.1.pk ∧ x5.pkn = x6.1.pkn) ∧ 
 (x5.dis = x6.1.dis) ∧ 
 ((x5.fed : Int) = (x6.1.fed : Int)) ∧ 
 (Value.pointer none = Value.pointer none) ∧ (x.bb = x.bb ∧ Off.lit 0 = Off.lit 0) ∧ 
 (Value.pointer none = Value.pointer none) ∧ (x.sb = x.sb) ∧ 
 (x.vs = x.vs ∧ ints (nats (ints x.bs)) = ints x.bs) ∧ 
 ((x5.off : Int) = (x6.1.off : Int)) ∧ 
 (x5.prev = x6.1.prev) ∧ 
 (x.bb = x.bb) ∧ 
 (x.sb = x.sb ∧ Off.lit 0 = Off.lit 0) ∧ 
 ((x5.pos : Int) = (x6.1.pos : Int)) ∧ 
 (x5.bv = x6.1.bv ∧ x5.bn = x6.1.bn) ∧ 
 ((512 : Nat) = (512 : Nat) ∧ x5.arr = x6.1.arr) ∧ 
 (bx = bx ∧ putAt l 0 (List.take x2.2 (List.drop (RS.P x / (8 : Nat)) x.bs)) = Prod.snd (x6.2.2)) ∧ 
 (True)))))))))
 (Br (decide ((x2.2 : Int) ≥ (↑(List.length l) : Int)))
 (((∃ x3 : (RV), (full145 x (List.length l) x3) ∧ 
 ((x2.2 : Int) = (↑(List.length l) : Int)) ∧ 
 (Value.nilIface = Value.nilIface) ∧ (x.m = x.m) ∧ 
 (relLe x.rel x.rel) ∧ 
 (x.rb = x.rb) ∧ 
 ((x2.1.off : Int) = (x3.off : Int)) ∧ 
 (x.sb = x.sb ∧ Off.lit 0 = Off.lit 0) ∧ 
 (Value.nilIface = Value.nilIface) ∧ (x.bb = x.bb ∧ Off.lit 0 = Off.lit 0) ∧ 
 ((x2.1.bits : Int) = (x3.bits : Int)) ∧ 
 ((x2.1.num : Int) = (x3.num : Int)) ∧ 
 (x.big = x.big) ∧ 
 (x2.1.pk = x3.pk ∧ x2.1.pkn = x3.pkn) ∧ 
 (x2.1.dis = x3.dis) ∧ 
 ((x2.1.fed : Int) = (x3.fed : Int)) ∧ 
 (Value.pointer none = Value.pointer none) ∧ (x.bb = x.bb ∧ Off.lit 0 = Off.lit 0) ∧ 
 (Value.pointer none = Value.pointer none) ∧ (x.sb = x.sb) ∧ 
 (x.vs = x.vs ∧ ints x.bs = ints x.bs) ∧ 
 ((x2.1.off : Int) = (x3.off : Int)) ∧ 
 (x2.1.prev = x3.prev) ∧ 
 (x.bb = x.bb) ∧ 
 (x.sb = x.sb ∧ Off.lit 0 = Off.lit 0) ∧ 
 ((x2.1.pos : Int) = (x3.pos : Int)) ∧ 
 (x2.1.bv = x3.bv ∧ x2.1.bn = x3.bn) ∧ 
 ((512 : Nat) = (512 : Nat) ∧ x2.1.arr = x3.arr) ∧ 
 (bx = bx ∧ putAt l 0 (List.take x2.2 (List.drop (RS.P x / (8 : Nat)) x.bs)) = ints (List.take (List.length l) (List.drop (RS.P x / (8 : Nat)) x.bs))) ∧ 
 (True)) ∨
 (∃ x3 : (RV × Nat × Addr × List Int), (ends145 x l x3.1 (x3.2.1) (Prod.snd (x3.2.2))) ∧ 
 ((x2.2 : Int) = (↑(x3.2.1) : Int)) ∧ 
 (Value.nilIface = errV (Prod.fst (x3.2.2))) ∧ 
 (x.m = x.m) ∧ 
 (relLe x.rel x.rel) ∧ 
 (x.rb = x.rb) ∧ 
 ((x2.1.off : Int) = (x3.1.off : Int)) ∧ 
 (x.sb = x.sb ∧ Off.lit 0 = Off.lit 0) ∧ 
 (Value.nilIface = Value.nilIface) ∧ (x.bb = x.bb ∧ Off.lit 0 = Off.lit 0) ∧ 
 ((x2.1.bits : Int) = (x3.1.bits : Int)) ∧ 
 ((x2.1.num : Int) = (x3.1.num : Int)) ∧ 
 (x.big = x.big) ∧ 
 (x2.1.pk = x3.1.pk ∧ x2.1.pkn = x3.1.pkn) ∧ 
 (x2.1.dis = x3.1.dis) ∧ 
 ((x2.1.fed : Int) = (x3.1.fed : Int)) ∧ 
 (Value.pointer none = Value.pointer none) ∧ (x.bb = x.bb ∧ Off.lit 0 = Off.lit 0) ∧ 
 (Value.pointer none = Value.pointer none) ∧ (x.sb = x.sb) ∧ 
 (x.vs = x.vs ∧ ints x.bs = ints x.bs) ∧ 
 ((x2.1.off : Int) = (x3.1.off : Int)) ∧ 
 (x2.1.prev = x3.1.prev) ∧ 
 (x.bb = x.bb) ∧ 
 (x.sb = x.sb ∧ Off.lit 0 = Off.lit 0) ∧ 
 ((x2.1.pos : Int) = (x3.1.pos : Int)) ∧ 
 (x2.1.bv = x3.1.bv ∧ x2.1.bn = x3.1.bn) ∧ 
 ((512 : Nat) = (512 : Nat) ∧ x2.1.arr = x3.1.arr) ∧ 
 (bx = bx ∧ putAt l 0 (List.take x2.2 (List.drop (RS.P x / (8 : Nat)) x.bs)) = Prod.snd (x3.2.2)) ∧ 
 (True))))
 (Br (decide ((x2.2 : Int) > (0 : Int)))
 (((∃ x3 : (RV), (full145 x (List.length l) x3) ∧ 
 ((x2.2 : Int) = (↑(List.length l) : Int)) ∧ 
 (Value.nilIface = Value.nilIface) ∧ (x.m = x.m) ∧ 
 (relLe x.rel x.rel) ∧ 
 (x.rb = x.rb) ∧ 
 ((x2.1.off : Int) = (x3.off : Int)) ∧ 
 (x.sb = x.sb ∧ Off.lit 0 = Off.lit 0) ∧ 
 (Value.nilIface = Value.nilIface) ∧ (x.bb = x.bb ∧ Off.lit 0 = Off.lit 0) ∧ 
 ((x2.1.bits : Int) = (x3.bits : Int)) ∧ 
 ((x2.1.num : Int) = (x3.num : Int)) ∧ 
 (x.big = x.big) ∧ 
 (x2.1.pk = x3.pk ∧ x2.1.pkn = x3.pkn) ∧ 
 (x2.1.dis = x3.dis) ∧ 
 ((x2.1.fed : Int) = (x3.fed : Int)) ∧ 
 (Value.pointer none = Value.pointer none) ∧ (x.bb = x.bb ∧ Off.lit 0 = Off.lit 0) ∧ 
 (Value.pointer none = Value.pointer none) ∧ (x.sb = x.sb) ∧ 
 (x.vs = x.vs ∧ ints x.bs = ints x.bs) ∧ 
 ((x2.1.off : Int) = (x3.off : Int)) ∧ 
 (x2.1.prev = x3.prev) ∧ 
 (x.bb = x.bb) ∧ 
 (x.sb = x.sb ∧ Off.lit 0 = Off.lit 0) ∧ 
 ((x2.1.pos : Int) = (x3.pos : Int)) ∧ 
 (x2.1.bv = x3.bv ∧ x2.1.bn = x3.bn) ∧ 
 ((512 : Nat) = (512 : Nat) ∧ x2.1.arr = x3.arr) ∧ 
 (bx = bx ∧ putAt l 0 (List.take x2.2 (List.drop (RS.P x / (8 : Nat)) x.bs)) = ints (List.take (List.length l) (List.drop (RS.P x / (8 : Nat)) x.bs))) ∧ 
 (True)) ∨
 (∃ x3 : (RV × Nat × Addr × List Int), (ends145 x l x3.1 (x3.2.1) (Prod.snd (x3.2.2))) ∧ 
 ((x2.2 : Int) = (↑(x3.2.1) : Int)) ∧ 
 (Value.nilIface = errV (Prod.fst (x3.2.2))) ∧ 
 (x.m = x.m) ∧ 
 (relLe x.rel x.rel) ∧ 
 (x.rb = x.rb) ∧ 
 ((x2.1.off : Int) = (x3.1.off : Int)) ∧ 
 (x.sb = x.sb ∧ Off.lit 0 = Off.lit 0) ∧ 
 (Value.nilIface = Value.nilIface) ∧ (x.bb = x.bb ∧ Off.lit 0 = Off.lit 0) ∧ 
 ((x2.1.bits : Int) = (x3.1.bits : Int)) ∧ 
 ((x2.1.num : Int) = (x3.1.num : Int)) ∧ 
 (x.big = x.big) ∧ 
 (x2.1.pk = x3.1.pk ∧ x2.1.pkn = x3.1.pkn) ∧ 
 (x2.1.dis = x3.1.dis) ∧ 
 ((x2.1.fed : Int) = (x3.1.fed : Int)) ∧ 
 (Value.pointer none = Value.pointer none) ∧ (x.bb = x.bb ∧ Off.lit 0 = Off.lit 0) ∧ 
 (Value.pointer none = Value.pointer none) ∧ (x.sb = x.sb) ∧ 
 (x.vs = x.vs ∧ ints x.bs = ints x.bs) ∧ 
 ((x2.1.off : Int) = (x3.1.off : Int)) ∧ 
 (x2.1.prev = x3.1.prev) ∧ 
 (x.bb = x.bb) ∧ 
 (x.sb = x.sb ∧ Off.lit 0 = Off.lit 0) ∧ 
 ((x2.1.pos : Int) = (x3.1.pos : Int)) ∧ 
 (x2.1.bv = x3.1.bv ∧ x2.1.bn = x3.1.bn) ∧ 
 ((512 : Nat) = (512 : Nat) ∧ x2.1.arr = x3.1.arr) ∧ 
 (bx = bx ∧ putAt l 0 (List.take x2.2 (List.drop (RS.P x / (8 : Nat)) x.bs)) = Prod.snd (x3.2.2)) ∧ 
 (True))))
 (((∃ x3 : (RV), (full145 x (List.length l) x3) ∧ 
 ((x2.2 : Int) = (↑(List.length l) : Int)) ∧ 
 (Value.nilIface = Value.nilIface) ∧ (x.m = x.m) ∧ 
 (relLe x.rel x.rel) ∧ 
 (x.rb = x.rb) ∧ 
 ((x2.1.off : Int) = (x3.off : Int)) ∧ 
 (x.sb = x.sb ∧ Off.lit 0 = Off.lit 0) ∧ 
 (Value.nilIface = Value.nilIface) ∧ (x.bb = x.bb ∧ Off.lit 0 = Off.lit 0) ∧ 
 ((x2.1.bits : Int) = (x3.bits : Int)) ∧ 
 ((x2.1.num : Int) = (x3.num : Int)) ∧ 
 (x.big = x.big) ∧ 
 (x2.1.pk = x3.pk ∧ x2.1.pkn = x3.pkn) ∧ 
 (x2.1.dis = x3.dis) ∧ 
 ((x2.1.fed : Int) = (x3.fed : Int)) ∧ 
 (Value.pointer none = Value.pointer none) ∧ (x.bb = x.bb ∧ Off.lit 0 = Off.lit 0) ∧ 
 (Value.pointer none = Value.pointer none) ∧ (x.sb = x.sb) ∧ 
 (x.vs = x.vs ∧ ints x.bs = ints x.bs) ∧ 
 ((x2.1.off : Int) = (x3.off : Int)) ∧ 
 (x2.1.prev = x3.prev) ∧ 
 (x.bb = x.bb) ∧ 
 (x.sb = x.sb ∧ Off.lit 0 = Off.lit 0) ∧ 
 ((x2.1.pos : Int) = (x3.pos : Int)) ∧ 
 (x2.1.bv = x3.bv ∧ x2.1.bn = x3.bn) ∧ 
 ((512 : Nat) = (512 : Nat) ∧ x2.1.arr = x3.arr) ∧ 
 (bx = bx ∧ putAt l 0 (List.take x2.2 (List.drop (RS.P x / (8 : Nat)) x.bs)) = ints (List.take (List.length l) (List.drop (RS.P x / (8 : Nat)) x.bs))) ∧ 
 (True)) ∨
 (∃ x3 : (RV × Nat × Addr × List Int), (ends145 x l x3.1 (x3.2.1) (Prod.snd (x3.2.2))) ∧ 
 ((x2.2 : Int) = (↑(x3.2.1) : Int)) ∧ 
 (Value.nilIface = errV (Prod.fst (x3.2.2))) ∧ 
 (x.m = x.m) ∧ 
 (relLe x.rel x.rel) ∧ 
 (x.rb = x.rb) ∧ 
 ((x2.1.off : Int) = (x3.1.off : Int)) ∧ 
 (x.sb = x.sb ∧ Off.lit 0 = Off.lit 0) ∧ 
 (Value.nilIface = Value.nilIface) ∧ (x.bb = x.bb ∧ Off.lit 0 = Off.lit 0) ∧ 
 ((x2.1.bits : Int) = (x3.1.bits : Int)) ∧ 
 ((x2.1.num : Int) = (x3.1.num : Int)) ∧ 
 (x.big = x.big) ∧ 
 (x2.1.pk = x3.1.pk ∧ x2.1.pkn = x3.1.pkn) ∧ 
 (x2.1.dis = x3.1.dis) ∧ 
 ((x2.1.fed : Int) = (x3.1.fed : Int)) ∧ 
 (Value.pointer none = Value.pointer none) ∧ (x.bb = x.bb ∧ Off.lit 0 = Off.lit 0) ∧ 
 (Value.pointer none = Value.pointer none) ∧ (x.sb = x.sb) ∧ 
 (x.vs = x.vs ∧ ints x.bs = ints x.bs) ∧ 
 ((x2.1.off : Int) = (x3.1.off : Int)) ∧ 
 (x2.1.prev = x3.1.prev) ∧ 
 (x.bb = x.bb) ∧ 
 (x.sb = x.sb ∧ Off.lit 0 = Off.lit 0) ∧ 
 ((x2.1.pos : Int) = (x3.1.pos : Int)) ∧ 
 (x2.1.bv = x3.1.bv ∧ x2.1.bn = x3.1.bn) ∧ 
 ((512 : Nat) = (512 : Nat) ∧ x2.1.arr = x3.1.arr) ∧ 
 (bx = bx ∧ putAt l 0 (List.take x2.2 (List.drop (RS.P x / (8 : Nat)) x.bs)) = Prod.snd (x3.2.2)) ∧ 
 (True))))))))
noncomputable def law_c145 (G : Gl) (P : Nat) (x : RS) (bx : Value) (l : List Int) : VCT := fnx (CH G 4) (INH G 4 (b145 G) NA) (a145 x bx l) Tryz.f145 ((c145 G P).args (x, bx, l)) ((c145 G P).H (x, bx, l)) (outK true 6 ((c145 G P).ret (x, bx, l))) ((c145 G P).pan (x, bx, l))
theorem eq_c145 (G : Gl) (P : Nat) (x : RS) (bx : Value) (l : List Int) : cond_c145 G P x bx l = (law_c145 G P x bx l).den := by kernel_rfl
theorem ok_c145 (G : Gl) (P : Nat) (x : RS) (bx : Value) (l : List Int) (h : c145OK x l) : cond_c145 G P x bx l := by
  unfold cond_c145
  have e3 : ∀ l : List Nat, nats (ints l) = l := nats_ints
  have hlen : ∀ n, n ≤ l.length → x.P + 8 * n ≤ 8 * x.bs.length → (putAt l 0 (List.take n (List.drop (x.P / 8) x.bs))).length = l.length := fun n h1 h2 => putAt_len h1 (by rw [List.length_drop]; omega)
  simp only [e3, br_d, rel_self, true_and, and_true, inI64, Int.toNat_natCast]
  have hP := h.al
  have h300 := h.w.len
  refine ⟨fun h0 => absurd h0 (by omega), fun _ => ⟨(⟨x.off, x.bits, x.num, x.pk, x.pkn, x.dis, x.fed, x.pos, x.bv, x.bn, x.arr, x.prev⟩, 0), ⟨h.w, h.ok, by have := h.w.end_; omega, Nat.zero_le _⟩, rfl, rfl, rfl, rfl, ⟨rfl, rfl⟩, rfl, rfl, rfl, rfl, rfl, ⟨rfl, rfl⟩, rfl, by rw [List.take_zero, putAt_nil], fun y hy => ?_⟩⟩
  have hle := hy.le
  have hal := hy.all
  have hl := hlen y.2 hle hal
  refine ⟨fun h1 => ⟨⟨hl.symm, by omega, by omega, Int.le_refl _⟩, x.P + 8 * y.2, fun m => ⟨at145_ok hy hP m hl, fun u hu => ?_, fun u hu => ?_⟩⟩, fun h1 => ?_⟩
  · have hn := at145_next hy hu rfl
    have h2 := hu.some_ (by show y.2 < l.length; omega)
    have h3 := hn.all
    have h4 := hn.le
    refine ⟨by omega, (u.1, y.2 + u.2), ⟨hn, by dsimp only; omega⟩, by dsimp only; omega, rfl, rfl, rfl, ⟨rfl, rfl⟩, rfl, rfl, rfl, rfl, rfl, ⟨rfl, rfl⟩, rfl, ?_⟩
    have := putAt_put (l := l) (D := x.bs.drop (x.P / 8)) (n := y.2) (k := u.2) (by omega) (by rw [List.length_drop]; omega)
    rw [List.drop_drop] at this
    rw [show (x.P + 8 * y.2) / 8 = x.P / 8 + y.2 by omega]
    exact this
  · refine ⟨by omega, fun h2 => ⟨fun h3 => absurd h3 (by omega), fun h3 => ?_⟩, fun h2 => absurd h1 (by omega)⟩
    exact ⟨fun _ => .inr ⟨(u, y.2, G.U, _), at145_eof hy (by omega) hu, Int.add_zero _, rfl, rfl, rfl, rfl, ⟨rfl, rfl⟩, rfl, rfl, rfl, rfl, rfl, ⟨rfl, rfl⟩, rfl, rfl⟩, fun _ => .inr ⟨(u, y.2, G.E, _), at145_eof hy (by omega) hu, Int.add_zero _, rfl, rfl, rfl, rfl, ⟨rfl, rfl⟩, rfl, rfl, rfl, rfl, rfl, ⟨rfl, rfl⟩, rfl, rfl⟩⟩
  · have e : y.2 = l.length := by omega
    refine ⟨fun _ => .inl ⟨y.1, ⟨e ▸ hy.w, fun h0 => e ▸ hy.ok h0, e ▸ hy.all⟩, by rw [e], rfl, rfl, rfl, ⟨rfl, rfl⟩, rfl, rfl, rfl, rfl, rfl, ⟨rfl, rfl⟩, rfl, ?_⟩, fun h2 => absurd h1 (by omega)⟩
    rw [e]
    exact putAt_all (by rw [List.length_drop]; omega)
theorem b145_ok (G : Gl) : ∀ f pt, b145 G f = some pt → SpecOK (CC G) f pt := by
  intro f pt h
  unfold b145 at h
  split at h
  · cases h; exact exPT_ok 0 fun P => loc_ok (s230 G P) _
  · cases h
theorem s145 (G : Gl) (P : Nat) : SpecOK (CC G) 145 (c145 G P).pt := specH G 4 (b145_ok G) (fn := Tryz.f145) rfl NA (c145 G P) (fun x => a145 x.1 x.2.1 x.2.2) fun ⟨x, bx, l⟩ h => Met.of (eq_c145 G P x bx l) (ok_c145 G P x bx l h)
end Pc
/-
  ReadSymbol does what its contract says.
-/
set_option linter.unusedVariables false
set_option maxRecDepth 100000
open Go Go.Vg Go.Proofs
namespace Pc
def cond_c105 (G : Gl) (P : Nat) (lens : List Nat) (x : RS) (d : DC) : Prop :=
 (DC.db d = DC.db d) ∧ Br ((↑(List.length (ints (DC.ch d))) : Int) == (0 : Int))
 (∀ x1 : (Nat), ∃ x2 : (RV × Nat), (lacks x (cl lens (RS.W x)) x2.1) ∧ 
 (x1 = x2.2 ∧ Off.lit 0 = Off.lit 0) ∧ 
 (x.m = x.m) ∧ 
 (relLe x.rel x.rel) ∧ 
 (x.rb = x.rb) ∧ 
 ((x.off : Int) = (x2.1.off : Int)) ∧ 
 (x.sb = x.sb ∧ Off.lit 0 = Off.lit 0) ∧ 
 (Value.nilIface = Value.nilIface) ∧ (x.bb = x.bb ∧ Off.lit 0 = Off.lit 0) ∧ 
 ((x.bits : Int) = (x2.1.bits : Int)) ∧ 
 ((x.num : Int) = (x2.1.num : Int)) ∧ 
 (x.big = x.big) ∧ 
 (x.pk = x2.1.pk ∧ x.pkn = x2.1.pkn) ∧ 
 (x.dis = x2.1.dis) ∧ 
 ((x.fed : Int) = (x2.1.fed : Int)) ∧ 
 (Value.pointer none = Value.pointer none) ∧ (x.bb = x.bb ∧ Off.lit 0 = Off.lit 0) ∧ 
 (Value.pointer none = Value.pointer none) ∧ (x.sb = x.sb) ∧ 
 (x.vs = x.vs ∧ ints x.bs = ints x.bs) ∧ 
 ((x.off : Int) = (x2.1.off : Int)) ∧ 
 (x.prev = x2.1.prev) ∧ 
 (x.bb = x.bb) ∧ 
 (x.sb = x.sb ∧ Off.lit 0 = Off.lit 0) ∧ 
 ((x.pos : Int) = (x2.1.pos : Int)) ∧ 
 (x.bv = x2.1.bv ∧ x.bn = x2.1.bn) ∧ 
 ((512 : Nat) = (512 : Nat) ∧ x.arr = x2.1.arr) ∧ 
 (DC.db d = DC.db d) ∧ (DC.cv d = DC.cv d ∧ ints (DC.ch d) = ints (DC.ch d)) ∧ 
 (DC.lv d = DC.lv d ∧ DC.lk d = DC.lk d) ∧ 
 ((↑(DC.cm d) : Int) = (↑(DC.cm d) : Int)) ∧ ((↑(DC.lm d) : Int) = (↑(DC.lm d) : Int)) ∧ ((↑(DC.cb d) : Int) = (↑(DC.cb d) : Int)) ∧ ((↑(DC.mb d) : Int) = (↑(DC.mb d) : Int)) ∧ ((↑(DC.ns d) : Int) = (↑(DC.ns d) : Int)) ∧ (x1 = x2.2) ∧ 
 False /- "match: values of two makes" -/)
 ((DC.db d = DC.db d) ∧ ∃ x1 : (RV × Nat), (rsOK (x.put x1.1) ∧ (1 : Nat) ≤ x1.2 ∧ x1.2 ≤ cl lens (RS.W x)) ∧ 
 (IntKind.wrap IntKind.u64 (↑(DC.mb d) : Int) = (x1.2 : Int)) ∧ 
 (x.m = x.m) ∧ (relLe x.rel x.rel) ∧ 
 (x.rb = x.rb) ∧ 
 ((x.off : Int) = (x1.1.off : Int)) ∧ 
 (x.sb = x.sb ∧ Off.lit 0 = Off.lit 0) ∧ 
 (Value.nilIface = Value.nilIface) ∧ (x.bb = x.bb ∧ Off.lit 0 = Off.lit 0) ∧ 
 ((x.bits : Int) = (x1.1.bits : Int)) ∧ 
 ((x.num : Int) = (x1.1.num : Int)) ∧ 
 (x.big = x.big) ∧ 
 (x.pk = x1.1.pk ∧ x.pkn = x1.1.pkn) ∧ 
 (x.dis = x1.1.dis) ∧ 
 ((x.fed : Int) = (x1.1.fed : Int)) ∧ 
 (Value.pointer none = Value.pointer none) ∧ (x.bb = x.bb ∧ Off.lit 0 = Off.lit 0) ∧ 
 (Value.pointer none = Value.pointer none) ∧ (x.sb = x.sb) ∧ 
 (x.vs = x.vs ∧ ints x.bs = ints x.bs) ∧ 
 ((x.off : Int) = (x1.1.off : Int)) ∧ 
 (x.prev = x1.1.prev) ∧ 
 (x.bb = x.bb) ∧ 
 (x.sb = x.sb ∧ Off.lit 0 = Off.lit 0) ∧ 
 ((x.pos : Int) = (x1.1.pos : Int)) ∧ 
 (x.bv = x1.1.bv ∧ x.bn = x1.1.bn) ∧ 
 ((512 : Nat) = (512 : Nat) ∧ x.arr = x1.1.arr) ∧ 
 (DC.db d = DC.db d) ∧ (DC.cv d = DC.cv d ∧ ints (DC.ch d) = ints (DC.ch d)) ∧ 
 (DC.lv d = DC.lv d ∧ DC.lk d = DC.lk d) ∧ 
 ((↑(DC.cm d) : Int) = (↑(DC.cm d) : Int)) ∧ ((↑(DC.lm d) : Int) = (↑(DC.lm d) : Int)) ∧ ((↑(DC.cb d) : Int) = (↑(DC.cb d) : Int)) ∧ ((↑(DC.mb d) : Int) = (↑(DC.mb d) : Int)) ∧ ((↑(DC.ns d) : Int) = (↑(DC.ns d) : Int)) ∧ ∀ x2 : (RV × Nat), ((rsOK (x.put x2.1) ∧ (1 : Nat) ≤ x2.2 ∧ x2.2 ≤ cl lens (RS.W x)) → 
 ∃ x3 : (Nat), ∀ x4 : (Nat → Option Obj), (rsOK (RS.mk x4 x.rel x.rb x.sb x.bb x.vs (nats (ints x.bs)) x.big x3 (Int.toNat (x2.1.off : Int)) (Int.toNat (x2.1.bits : Int)) (Int.toNat (x2.1.num : Int)) x2.1.pk x2.1.pkn x2.1.dis (Int.toNat (x2.1.fed : Int)) (Int.toNat (x2.1.pos : Int)) x2.1.bv x2.1.bn x2.1.arr x2.1.prev) ∧ Int.toNat (x2.2 : Int) ≤ (56 : Nat)) ∧ 
 (x.rb = x.rb ∧ Off.lit 0 = Off.lit 0) ∧ 
 ((x2.2 : Int) = (↑(Int.toNat (x2.2 : Int)) : Int)) ∧ 
 (x4 = x4) ∧ 
 (relLe x.rel x.rel) ∧ 
 (x.rb = x.rb) ∧ 
 ((x2.1.off : Int) = (↑(Int.toNat (x2.1.off : Int)) : Int)) ∧ 
 (x.sb = x.sb ∧ Off.lit 0 = Off.lit 0) ∧ 
 (Value.nilIface = Value.nilIface) ∧ (x.bb = x.bb ∧ Off.lit 0 = Off.lit 0) ∧ 
 ((x2.1.bits : Int) = (↑(Int.toNat (x2.1.bits : Int)) : Int)) ∧ 
 ((x2.1.num : Int) = (↑(Int.toNat (x2.1.num : Int)) : Int)) ∧ 
 (x.big = x.big) ∧ 
 (x2.1.pk = x2.1.pk ∧ x2.1.pkn = x2.1.pkn) ∧ 
 (x2.1.dis = x2.1.dis) ∧ 
 ((x2.1.fed : Int) = (↑(Int.toNat (x2.1.fed : Int)) : Int)) ∧ 
 (Value.pointer none = Value.pointer none) ∧ (x.bb = x.bb ∧ Off.lit 0 = Off.lit 0) ∧ 
 (Value.pointer none = Value.pointer none) ∧ (x.sb = x.sb) ∧ 
 (x.vs = x.vs ∧ ints x.bs = ints (nats (ints x.bs))) ∧ 
 ((x2.1.off : Int) = (↑(Int.toNat (x2.1.off : Int)) : Int)) ∧ 
 (x2.1.prev = x2.1.prev) ∧ 
 (x.bb = x.bb) ∧ 
 (x.sb = x.sb ∧ Off.lit 0 = Off.lit 0) ∧ 
 ((x2.1.pos : Int) = (↑(Int.toNat (x2.1.pos : Int)) : Int)) ∧ 
 (x2.1.bv = x2.1.bv ∧ x2.1.bn = x2.1.bn) ∧ 
 ((512 : Nat) = (512 : Nat) ∧ x2.1.arr = x2.1.arr) ∧ 
 (∀ x5 : (RV), ((pulled (RS.mk x4 x.rel x.rb x.sb x.bb x.vs (nats (ints x.bs)) x.big x3 (Int.toNat (x2.1.off : Int)) (Int.toNat (x2.1.bits : Int)) (Int.toNat (x2.1.num : Int)) x2.1.pk x2.1.pkn x2.1.dis (Int.toNat (x2.1.fed : Int)) (Int.toNat (x2.1.pos : Int)) x2.1.bv x2.1.bn x2.1.arr x2.1.prev) (Int.toNat (x2.2 : Int)) x5) → 
 (x4 = x4) ∧ 
 (DC.db d = DC.db d) ∧ (x.rb = x.rb) ∧ 
 (DC.db d = DC.db d) ∧ (inRange (bitI BinOp.and IntKind.u32 (IntKind.wrap IntKind.u32 (x5.bits : Int)) (↑(DC.cm d) : Int)) (List.length (ints (DC.ch d)))) ∧ 
 (Int.toNat (bitI BinOp.and IntKind.u32 (IntKind.wrap IntKind.u32 (x5.bits : Int)) (↑(DC.cm d) : Int)) < List.length (ints (DC.ch d))) ∧ 
 ∀ x6 : (Int), (((ints (DC.ch d))[Int.toNat (bitI BinOp.and IntKind.u32 (IntKind.wrap IntKind.u32 (x5.bits : Int)) (↑(DC.cm d) : Int))]? = some x6) → 
 (DC.db d = DC.db d) ∧ Br (decide (IntKind.wrap IntKind.u64 (bitI BinOp.and IntKind.u32 x6 (31 : Int)) > IntKind.wrap IntKind.u64 (↑(DC.cb d) : Int)))
 (((0 : Int) ≤ (5 : Int)) ∧ 
 (DC.db d = DC.db d) ∧ (inRange (shrI IntKind.u32 x6 (5 : Int)) (List.length (DC.lk d))) ∧ 
 (Int.toNat (shrI IntKind.u32 x6 (5 : Int)) < List.length (DC.lk d)) ∧ 
 ∀ x7 : (Sl), (((DC.lk d)[Int.toNat (shrI IntKind.u32 x6 (5 : Int))]? = some x7) → 
 (x.rb = x.rb) ∧ 
 (DC.db d = DC.db d) ∧ ((0 : Int) ≤ (↑(DC.cb d) : Int)) ∧ 
 (DC.db d = DC.db d) ∧ ∃ x8 : (List (Tys.El TT 43)), (isRo x.rel 43 (Value.slice (Sl.A x7) x7.n x7.cap) x8) ∧ 
 ((x7.n = List.length x8) → 
 (inRange (bitI BinOp.and IntKind.u32 (IntKind.wrap IntKind.u32 (shrI IntKind.u64 (x5.bits : Int) (↑(DC.cb d) : Int))) (↑(DC.lm d) : Int)) (List.length x8)) ∧ 
 (Int.toNat (bitI BinOp.and IntKind.u32 (IntKind.wrap IntKind.u32 (shrI IntKind.u64 (x5.bits : Int) (↑(DC.cb d) : Int))) (↑(DC.lm d) : Int)) < List.length x8) ∧ 
 ∀ x9 : (Int), ((x8[Int.toNat (bitI BinOp.and IntKind.u32 (IntKind.wrap IntKind.u32 (shrI IntKind.u64 (x5.bits : Int) (↑(DC.cb d) : Int))) (↑(DC.lm d) : Int))]? = some x9) → 
 (x.rb = x.rb) ∧ 
 Br (decide (IntKind.wrap IntKind.u64 (bitI BinOp.and IntKind.u32 x9 (31 : Int)) ≤ (x5.num : Int)))
 ((x.rb = x.rb) ∧ 
 ((0 : Int) ≤ IntKind.wrap IntKind.u64 (bitI BinOp.and IntKind.u32 x9 (31 : Int))) ∧ 
 (x.rb = x.rb) ∧ 
 (x.rb = x.rb) ∧ 
 (x.rb = x.rb) ∧ 
 ((0 : Int) ≤ (5 : Int)) ∧ 
 ∃ x10 : (RV), (took x (cl lens (RS.W x)) x10) ∧ 
 (IntKind.wrap IntKind.u64 (shrI IntKind.u32 x9 (5 : Int)) = (↑(cd lens (RS.W x)) : Int)) ∧ 
 (x.m = x.m) ∧ 
 (relLe x.rel x.rel) ∧ 
 (x.rb = x.rb) ∧ 
 ((x5.off : Int) = (x10.off : Int)) ∧ 
 (x.sb = x.sb ∧ Off.lit 0 = Off.lit 0) ∧ 
 (Value.nilIface = Value.nilIface) ∧ (x.bb = x.bb ∧ Off.lit 0 = Off.lit 0) ∧ 
 (shrI IntKind.u64 (x5.bits : Int) (IntKind.wrap IntKind.u64 (bitI BinOp.and IntKind.u32 x9 (31 : Int))) = (x10.bits : Int)) ∧ 
 (IntKind.wrap IntKind.u64 ((x5.num : Int) - IntKind.wrap IntKind.u64 (bitI BinOp.and IntKind.u32 x9 (31 : Int))) = (x10.num : Int)) ∧ 
 (x.big = x.big) ∧ 
 (x5.pk = x10.pk ∧ x5.pkn = x10.pkn) ∧ 
 (x5.dis = x10.dis) ∧ 
 ((x5.fed : Int) = (x10.fed : Int)) ∧ 
 (Value.pointer none = Value.pointer none) ∧ (x.bb = x.bb ∧ Off.lit 0 = Off.lit 0) ∧ 
 (Value.pointer none = Value.pointer none) ∧ (x.sb = x.sb) ∧ 
 (x.vs = x.vs ∧ ints (nats (ints x.bs)) = ints x.bs) ∧ 
 ((x5.off : Int) = (x10.off : Int)) ∧ 
 (x5.prev = x10.prev) ∧ 
 (x.bb = x.bb) ∧ 
 (x.sb = x.sb ∧ Off.lit 0 = Off.lit 0) ∧ 
 ((x5.pos : Int) = (x10.pos : Int)) ∧ 
 (x5.bv = x10.bv ∧ x5.bn = x10.bn) ∧ 
 ((512 : Nat) = (512 : Nat) ∧ x5.arr = x10.arr) ∧ 
 (DC.db d = DC.db d) ∧ (DC.cv d = DC.cv d ∧ ints (DC.ch d) = ints (DC.ch d)) ∧ 
 (DC.lv d = DC.lv d ∧ DC.lk d = DC.lk d) ∧ 
 ((↑(DC.cm d) : Int) = (↑(DC.cm d) : Int)) ∧ ((↑(DC.lm d) : Int) = (↑(DC.lm d) : Int)) ∧ ((↑(DC.cb d) : Int) = (↑(DC.cb d) : Int)) ∧ ((↑(DC.mb d) : Int) = (↑(DC.mb d) : Int)) ∧ ((↑(DC.ns d) : Int) = (↑(DC.ns d) : Int)) ∧ (True))
 (∃ x10 : (RV × Nat), ((rsOK (x.put x10.1) ∧ (1 : Nat) ≤ x10.2 ∧ x10.2 ≤ cl lens (RS.W x)) ∧ (21 : Nat) - x10.2 < (21 : Nat) - x2.2) ∧ 
 (IntKind.wrap IntKind.u64 (bitI BinOp.and IntKind.u32 x9 (31 : Int)) = (x10.2 : Int)) ∧ 
 (x.m = x.m) ∧ (relLe x.rel x.rel) ∧ 
 (x.rb = x.rb) ∧ 
 ((x5.off : Int) = (x10.1.off : Int)) ∧ 
 (x.sb = x.sb ∧ Off.lit 0 = Off.lit 0) ∧ 
 (Value.nilIface = Value.nilIface) ∧ (x.bb = x.bb ∧ Off.lit 0 = Off.lit 0) ∧ 
 ((x5.bits : Int) = (x10.1.bits : Int)) ∧ 
 ((x5.num : Int) = (x10.1.num : Int)) ∧ 
 (x.big = x.big) ∧ 
 (x5.pk = x10.1.pk ∧ x5.pkn = x10.1.pkn) ∧ 
 (x5.dis = x10.1.dis) ∧ 
 ((x5.fed : Int) = (x10.1.fed : Int)) ∧ 
 (Value.pointer none = Value.pointer none) ∧ (x.bb = x.bb ∧ Off.lit 0 = Off.lit 0) ∧ 
 (Value.pointer none = Value.pointer none) ∧ (x.sb = x.sb) ∧ 
 (x.vs = x.vs ∧ ints (nats (ints x.bs)) = ints x.bs) ∧ 
 ((x5.off : Int) = (x10.1.off : Int)) ∧ 
 (x5.prev = x10.1.prev) ∧ 
 (x.bb = x.bb) ∧ 
 (x.sb = x.sb ∧ Off.lit 0 = Off.lit 0) ∧ 
 ((x5.pos : Int) = (x10.1.pos : Int)) ∧ 
 (x5.bv = x10.1.bv ∧ x5.bn = x10.1.bn) ∧ 
 ((512 : Nat) = (512 : Nat) ∧ x5.arr = x10.1.arr) ∧ 
 (DC.db d = DC.db d) ∧ (DC.cv d = DC.cv d ∧ ints (DC.ch d) = ints (DC.ch d)) ∧ 
 (DC.lv d = DC.lv d ∧ DC.lk d = DC.lk d) ∧ 
 ((↑(DC.cm d) : Int) = (↑(DC.cm d) : Int)) ∧ ((↑(DC.lm d) : Int) = (↑(DC.lm d) : Int)) ∧ ((↑(DC.cb d) : Int) = (↑(DC.cb d) : Int)) ∧ ((↑(DC.mb d) : Int) = (↑(DC.mb d) : Int)) ∧ ((↑(DC.ns d) : Int) = (↑(DC.ns d) : Int)) ∧ (True))))))
 ((x.rb = x.rb) ∧ 
 Br (decide (IntKind.wrap IntKind.u64 (bitI BinOp.and IntKind.u32 x6 (31 : Int)) ≤ (x5.num : Int)))
 ((x.rb = x.rb) ∧ 
 ((0 : Int) ≤ IntKind.wrap IntKind.u64 (bitI BinOp.and IntKind.u32 x6 (31 : Int))) ∧ 
 (x.rb = x.rb) ∧ 
 (x.rb = x.rb) ∧ 
 (x.rb = x.rb) ∧ 
 ((0 : Int) ≤ (5 : Int)) ∧ 
 ∃ x7 : (RV), (took x (cl lens (RS.W x)) x7) ∧ 
 (IntKind.wrap IntKind.u64 (shrI IntKind.u32 x6 (5 : Int)) = (↑(cd lens (RS.W x)) : Int)) ∧ 
 (x.m = x.m) ∧ 
 (relLe x.rel x.rel) ∧ 
 (x.rb = x.rb) ∧ 
 ((x5.off : Int) = (x7.off : Int)) ∧ 
 (x.sb = x.sb ∧ Off.lit 0 = Off.lit 0) ∧ 
 (Value.nilIface = Value.nilIface) ∧ (x.bb = x.bb ∧ Off.lit 0 = Off.lit 0) ∧ 
 (shrI IntKind.u64 (x5.bits : Int) (IntKind.wrap IntKind.u64 (bitI BinOp.and IntKind.u32 x6 (31 : Int))) = (x7.bits : Int)) ∧ 
 (IntKind.wrap IntKind.u64 ((x5.num : Int) - IntKind.wrap IntKind.u64 (bitI BinOp.and IntKind.u32 x6 (31 : Int))) = (x7.num : Int)) ∧ 
 (x.big = x.big) ∧ 
 (x5.pk = x7.pk ∧ x5.pkn = x7.pkn) ∧ 
 (x5.dis = x7.dis) ∧ 
 ((x5.fed : Int) = (x7.fed : Int)) ∧ 
 (Value.pointer none = Value.pointer none) ∧ (x.bb = x.bb ∧ Off.lit 0 = Off.lit 0) ∧ 
 (Value.pointer none = Value.pointer none) ∧ (x.sb = x.sb) ∧ 
 (x.vs = x.vs ∧ ints (nats (ints x.bs)) = ints x.bs) ∧ 
 ((x5.off : Int) = (x7.off : Int)) ∧ 
 (x5.prev = x7.prev) ∧ 
 (x.bb = x.bb) ∧ 
 (x.sb = x.sb ∧ Off.lit 0 = Off.lit 0) ∧ 
 ((x5.pos : Int) = (x7.pos : Int)) ∧ 
 (x5.bv = x7.bv ∧ x5.bn = x7.bn) ∧ 
 ((512 : Nat) = (512 : Nat) ∧ x5.arr = x7.arr) ∧ 
 (DC.db d = DC.db d) ∧ (DC.cv d = DC.cv d ∧ ints (DC.ch d) = ints (DC.ch d)) ∧ 
 (DC.lv d = DC.lv d ∧ DC.lk d = DC.lk d) ∧ 
 ((↑(DC.cm d) : Int) = (↑(DC.cm d) : Int)) ∧ ((↑(DC.lm d) : Int) = (↑(DC.lm d) : Int)) ∧ ((↑(DC.cb d) : Int) = (↑(DC.cb d) : Int)) ∧ ((↑(DC.mb d) : Int) = (↑(DC.mb d) : Int)) ∧ ((↑(DC.ns d) : Int) = (↑(DC.ns d) : Int)) ∧ (True))
 (∃ x7 : (RV × Nat), ((rsOK (x.put x7.1) ∧ (1 : Nat) ≤ x7.2 ∧ x7.2 ≤ cl lens (RS.W x)) ∧ (21 : Nat) - x7.2 < (21 : Nat) - x2.2) ∧ 
 (IntKind.wrap IntKind.u64 (bitI BinOp.and IntKind.u32 x6 (31 : Int)) = (x7.2 : Int)) ∧ 
 (x.m = x.m) ∧ (relLe x.rel x.rel) ∧ 
 (x.rb = x.rb) ∧ 
 ((x5.off : Int) = (x7.1.off : Int)) ∧ 
 (x.sb = x.sb ∧ Off.lit 0 = Off.lit 0) ∧ 
 (Value.nilIface = Value.nilIface) ∧ (x.bb = x.bb ∧ Off.lit 0 = Off.lit 0) ∧ 
 ((x5.bits : Int) = (x7.1.bits : Int)) ∧ 
 ((x5.num : Int) = (x7.1.num : Int)) ∧ 
 (x.big = x.big) ∧ 
 (x5.pk = x7.1.pk ∧ x5.pkn = x7.1.pkn) ∧ 
 (x5.dis = x7.1.dis) ∧ 
 ((x5.fed : Int) = (x7.1.fed : Int)) ∧ 
 (Value.pointer none = Value.pointer none) ∧ (x.bb = x.bb ∧ Off.lit 0 = Off.lit 0) ∧ 
 (Value.pointer none = Value.pointer none) ∧ (x.sb = x.sb) ∧ 
 (x.vs = x.vs ∧ ints (nats (ints x.bs)) = ints x.bs) ∧ 
 ((x5.off : Int) = (x7.1.off : Int)) ∧ 
 (x5.prev = x7.1.prev) ∧ 
 (x.bb = x.bb) ∧ 
 (x.sb = x.sb ∧ Off.lit 0 = Off.lit 0) ∧ 
 ((x5.pos : Int) = (x7.1.pos : Int)) ∧ 
 (x5.bv = x7.1.bv ∧ x5.bn = x7.1.bn) ∧ 
 ((512 : Nat) = (512 : Nat) ∧ x5.arr = x7.1.arr) ∧ 
 (DC.db d = DC.db d) ∧ (DC.cv d = DC.cv d ∧ ints (DC.ch d) = ints (DC.ch d)) ∧ 
 (DC.lv d = DC.lv d ∧ DC.lk d = DC.lk d) ∧ 
 ((↑(DC.cm d) : Int) = (↑(DC.cm d) : Int)) ∧ ((↑(DC.lm d) : Int) = (↑(DC.lm d) : Int)) ∧ ((↑(DC.cb d) : Int) = (↑(DC.cb d) : Int)) ∧ ((↑(DC.mb d) : Int) = (↑(DC.mb d) : Int)) ∧ ((↑(DC.ns d) : Int) = (↑(DC.ns d) : Int)) ∧ (True)))))) ∧
 (∀ x5 : (RV), ((dry (RS.mk x4 x.rel x.rb x.sb x.bb x.vs (nats (ints x.bs)) x.big x3 (Int.toNat (x2.1.off : Int)) (Int.toNat (x2.1.bits : Int)) (Int.toNat (x2.1.num : Int)) x2.1.pk x2.1.pkn x2.1.dis (Int.toNat (x2.1.fed : Int)) (Int.toNat (x2.1.pos : Int)) x2.1.bv x2.1.bn x2.1.arr x2.1.prev) (Int.toNat (x2.2 : Int)) x5) → 
 (x4 = x4) ∧ 
 ∀ x6 : (Nat), ∃ x7 : (RV × Nat), (lacks x (cl lens (RS.W x)) x7.1) ∧ 
 (x6 = x7.2 ∧ Off.lit 0 = Off.lit 0) ∧ 
 (x.m = x.m) ∧ 
 (relLe x.rel x.rel) ∧ 
 (x.rb = x.rb) ∧ 
 ((x5.off : Int) = (x7.1.off : Int)) ∧ 
 (x.sb = x.sb ∧ Off.lit 0 = Off.lit 0) ∧ 
 (Value.nilIface = Value.nilIface) ∧ (x.bb = x.bb ∧ Off.lit 0 = Off.lit 0) ∧ 
 ((x5.bits : Int) = (x7.1.bits : Int)) ∧ 
 ((x5.num : Int) = (x7.1.num : Int)) ∧ 
 (x.big = x.big) ∧ 
 (x5.pk = x7.1.pk ∧ x5.pkn = x7.1.pkn) ∧ 
 (x5.dis = x7.1.dis) ∧ 
 ((x5.fed : Int) = (x7.1.fed : Int)) ∧ 
 (Value.pointer none = Value.pointer none) ∧ (x.bb = x.bb ∧ Off.lit 0 = Off.lit 0) ∧ 
 (Value.pointer none = Value.pointer none) ∧ (x.sb = x.sb) ∧ 
 (x.vs = x.vs ∧ ints (nats (ints x.bs)) = ints x.bs) ∧ 
 ((x5.off : Int) = (x7.1.off : Int)) ∧ 
 (x5.prev = x7.1.prev) ∧ 
 (x.bb = x.bb) ∧ 
 (x.sb = x.sb ∧ Off.lit 0 = Off.lit 0) ∧ 
 ((x5.pos : Int) = (x7.1.pos : Int)) ∧ 
 (x5.bv = x7.1.bv ∧ x5.bn = x7.1.bn) ∧ 
 ((512 : Nat) = (512 : Nat) ∧ x5.arr = x7.1.arr) ∧ 
 (DC.db d = DC.db d) ∧ (DC.cv d = DC.cv d ∧ ints (DC.ch d) = ints (DC.ch d)) ∧ 
 (DC.lv d = DC.lv d ∧ DC.lk d = DC.lk d) ∧ 
 ((↑(DC.cm d) : Int) = (↑(DC.cm d) : Int)) ∧ ((↑(DC.lm d) : Int) = (↑(DC.lm d) : Int)) ∧ ((↑(DC.cb d) : Int) = (↑(DC.cb d) : Int)) ∧ ((↑(DC.mb d) : Int) = (↑(DC.mb d) : Int)) ∧ ((↑(DC.ns d) : Int) = (↑(DC.ns d) : Int)) ∧ (x6 = x7.2) ∧ 
 (errV (Gl.U G) = errV (Gl.U G)) ∧ (True)))))
noncomputable def law_c105 (G : Gl) (P : Nat) (lens : List Nat) (x : RS) (d : DC) : VCT := fnx (CH G 4) (INH G 4 (b103 G) NA) (a105 x lens) Tryz.f105 ((c105 G P lens).args (x, d)) ((c105 G P lens).H (x, d)) (outK true 6 ((c105 G P lens).ret (x, d))) ((c105 G P lens).pan (x, d))
theorem eq_c105 (G : Gl) (P : Nat) (lens : List Nat) (x : RS) (d : DC) : cond_c105 G P lens x d = (law_c105 G P lens x d).den := by kernel_rfl
theorem low31 {k n : Nat} (hk : k < 100000000) (hn : n < 32) : bitI BinOp.and IntKind.u32 ((k * 32 + n : Nat) : Int) 31 = (n : Int) ∧ shrI IntKind.u32 ((k * 32 + n : Nat) : Int) 5 = (k : Int) := by
  constructor
  · rw [show (31 : Int) = ((31 : Nat) : Int) from rfl, andN rfl (by simp only [IntKind.bits]; omega) (by decide), show (31 : Nat) = 2 ^ 5 - 1 from rfl, Nat.and_two_pow_sub_one_eq_mod]
    omega
  · rw [show (5 : Int) = ((5 : Nat) : Int) from rfl, shrN, show min 5 IntKind.u32.bits = 5 from rfl]
    omega
theorem maskN {b n : Nat} (hn : n ≤ 16) : bitI BinOp.and IntKind.u32 (IntKind.u32.wrap (b : Int)) ((2 ^ n - 1 : Nat) : Int) = ((b % 2 ^ n : Nat) : Int) := by
  have h1 : (2 : Nat) ^ n ≤ 2 ^ 16 := Nat.pow_le_pow_right (by decide) hn
  rw [wrN rfl, andN rfl (Nat.mod_lt _ (by decide)) (by simp only [IntKind.bits]; omega), Nat.and_two_pow_sub_one_eq_mod]
  simp only [IntKind.bits]
  rw [Nat.mod_mod_of_dvd _ (Nat.pow_dvd_pow 2 (by omega))]
theorem ok_c105 (G : Gl) (P : Nat) (lens : List Nat) (x : RS) (d : DC) (hx : rsOK x) (hd : decOK x.rel lens d) : cond_c105 G P lens x d := by
  unfold cond_c105
  have e3 : ∀ l : List Nat, nats (ints l) = l := nats_ints
  have hg := hd.good
  have hcl := cl_pos hg x.W
  have hmb := hd.mb
  have hmbW := hmb.2 x.W
  have hcb := hd.cb
  have hlen := hd.len
  have hpow : 0 < 2 ^ d.cb := Nat.pow_pos (by decide)
  have hpow9 : 2 ^ d.cb ≤ 2 ^ 9 := Nat.pow_le_pow_right (by decide) hcb.2
  have e1 : IntKind.u64.wrap (d.mb : Int) = (d.mb : Int) := by rw [wr64]; omega
  have e2 : IntKind.u64.wrap (d.cb : Int) = (d.cb : Int) := by rw [wr64]; omega
  have hcm : (d.cm : Int) = ((2 ^ d.cb - 1 : Nat) : Int) := by rw [hd.cm]
  simp only [e1, e2, e3, hcm, br_d, br_i, rel_self, true_and, and_true, inRange, Int.toNat_natCast, ints_len]
  refine ⟨fun h => by omega, fun _ => ⟨(⟨x.off, x.bits, x.num, x.pk, x.pkn, x.dis, x.fed, x.pos, x.bv, x.bn, x.arr, x.prev⟩, d.mb), ⟨rs_m hx rfl, hmb.1, hmbW⟩, rfl, rfl, rfl, rfl, ⟨rfl, rfl⟩, rfl, rfl, rfl, rfl, rfl, ⟨rfl, rfl⟩, rfl, fun y hy => ⟨x.P, fun m => ⟨⟨rs_m hy.1 rfl, by omega⟩, fun v hv => ?_, fun v hv e => ⟨(v, e), ⟨rs_m hv.ok rfl, ?_⟩, rfl, rfl, rfl, rfl, ⟨rfl, rfl⟩, rfl, rfl, rfl, rfl, rfl, ⟨rfl, rfl⟩, rfl, rfl⟩⟩⟩⟩⟩
  · have hbk : bkOK x.W v.bits v.num := hv.ok.l.bk
    have hnum : y.2 ≤ v.num := hv.num
    have hok : rsOK (x.put v) := rs_m hv.ok rfl
    have hmono := cl_mono hg hbk.up
    have hclb := cl_pos hg v.bits
    have hcdb := (cd_hit hg v.bits).1
    have h60 := hg.sixty
    have hm := maskN (b := v.bits) (n := d.cb) (by omega)
    have hsame : cl lens v.bits ≤ v.num → cd lens x.W = cd lens v.bits ∧ cl lens x.W = cl lens v.bits := by
      intro h
      have h1 := cd_same hg (v := v.bits) (w := x.W) (bk_val hbk h)
      exact ⟨h1, by unfold cl; rw [h1]⟩
    have hmod : v.bits % 2 ^ d.cb < 2 ^ d.cb := Nat.mod_lt _ hpow
    simp only [hm, Int.toNat_natCast]
    have hw1 : IntKind.u64.wrap ((cl lens v.bits : Nat) : Int) = (cl lens v.bits : Int) := by rw [wr64]; omega
    have hw2 : IntKind.u64.wrap ((cd lens v.bits : Nat) : Int) = (cd lens v.bits : Int) := by rw [wr64]; omega
    have hL := low31 (k := cd lens v.bits) (n := cl lens v.bits) (by omega) (by omega)
    have h64 : v.num ≤ 64 := hbk.n
    have t1 : cl lens v.bits ≤ v.num → took x (cl lens x.W) { v with bits := v.bits / 2 ^ cl lens v.bits, num := v.num - cl lens v.bits } := by
      intro h
      rw [(hsame h).2]
      exact rs_take (x := x) (v := v) hok h
    have t2 : shrI IntKind.u64 (v.bits : Int) (cl lens v.bits : Int) = ((v.bits / 2 ^ cl lens v.bits : Nat) : Int) := by
      rw [shrN, show min (cl lens v.bits) IntKind.u64.bits = cl lens v.bits by simp only [IntKind.bits]; omega]
    refine ⟨by omega, by omega, fun z hz => ?_⟩
    obtain ⟨c, hc, rfl⟩ := ints_get hz
    rcases Nat.lt_or_ge d.cb (cl lens v.bits) with hlong | hshort
    · obtain ⟨k, sl, tb, lb, h1, h2, h3, h4, h5, h6, h7, h8, h9⟩ := hd.long v.bits hlong
      obtain rfl := Option.some.inj (hc.symm.trans h1)
      have hK := low31 (k := k) (n := d.cb + 1) (by omega) (by omega)
      have hwk : IntKind.u64.wrap ((d.cb + 1 : Nat) : Int) = ((d.cb + 1 : Nat) : Int) := by rw [wr64]; omega
      have hsh : shrI IntKind.u64 (v.bits : Int) (d.cb : Int) = ((v.bits / 2 ^ d.cb : Nat) : Int) := by
        rw [shrN, show min d.cb IntKind.u64.bits = d.cb by simp only [IntKind.bits]; omega]
      have hlm := maskN (b := v.bits / 2 ^ d.cb) (n := lb) (by omega)
      have hkl := (List.getElem?_eq_some_iff.1 h3).1
      have htl := (List.getElem?_eq_some_iff.1 h9).1
      simp only [hK, hwk, hsh, h7, hlm, h3, Int.toNat_natCast, Option.some.injEq, forall_eq']
      refine ⟨fun _ => ⟨by decide, by omega, hkl, by omega, ints tb, h4, fun _ => ⟨(show 0 ≤ ((v.bits / 2 ^ d.cb % 2 ^ lb : Nat) : Int) ∧ ((v.bits / 2 ^ d.cb % 2 ^ lb : Nat) : Int) < ((ints tb).length : Nat) by rw [ints_len]; omega), (show v.bits / 2 ^ d.cb % 2 ^ lb < (ints tb).length by rw [ints_len]; exact htl), fun z hz => ?_⟩⟩, fun h => by omega⟩
      obtain ⟨c, hc, rfl⟩ := ints_get hz
      obtain rfl := Option.some.inj (hc.symm.trans h9)
      simp only [hL, hw1, hw2, t2]
      refine ⟨fun h => ⟨by omega, by decide, _, t1 (by omega), ?_, rfl, rfl, ?_, ⟨rfl, rfl⟩, rfl, rfl, rfl, rfl, rfl, ⟨rfl, rfl⟩, rfl⟩, fun h => ⟨(v, cl lens v.bits), ⟨⟨hok, hclb.1, hmono⟩, by dsimp only; omega⟩, rfl, rfl, rfl, rfl, ⟨rfl, rfl⟩, rfl, rfl, rfl, rfl, rfl, ⟨rfl, rfl⟩, rfl⟩⟩
      · rw [(hsame (by omega)).1]
      · rw [wr64]; dsimp only; omega
    · have h1 := hd.short v.bits hshort
      obtain rfl := Option.some.inj (hc.symm.trans h1)
      simp only [hL, hw1, hw2, t2]
      refine ⟨fun h => by omega, fun _ => ⟨fun h => ⟨by omega, by decide, _, t1 (by omega), ?_, rfl, rfl, ?_, ⟨rfl, rfl⟩, rfl, rfl, rfl, rfl, rfl, ⟨rfl, rfl⟩, rfl⟩, fun h => ⟨(v, cl lens v.bits), ⟨⟨hok, hclb.1, hmono⟩, by dsimp only; omega⟩, rfl, rfl, rfl, rfl, ⟨rfl, rfl⟩, rfl, rfl, rfl, rfl, rfl, ⟨rfl, rfl⟩, rfl⟩⟩⟩
      · rw [(hsame (by omega)).1]
      · rw [wr64]; dsimp only; omega
  · have h1 : x.P + v.num = 8 * x.bs.length := hv.all
    have h2 : v.num < y.2 := hv.num
    omega
theorem s105 (G : Gl) (P : Nat) (lens : List Nat) : SpecOK (CC G) 105 (c105 G P lens).pt := specH G 4 (b103_ok G) (fn := Tryz.f105) rfl NA (c105 G P lens) (fun x => a105 x.1 lens) fun ⟨x, d⟩ h => Met.of (eq_c105 G P lens x d) (ok_c105 G P lens x d h.1 h.2)
end Pc
