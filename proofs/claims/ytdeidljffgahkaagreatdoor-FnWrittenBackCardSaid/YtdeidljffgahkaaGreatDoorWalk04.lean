/-
 PullBits does what its contract says.
-/
import Derived.Test.YtdeidljffgahkaaGreatDoorWalk03
set_option linter.unusedVariables false
set_option maxRecDepth 100000
open Go Go.Vg Go.Proofs
namespace Pc
def cond_c143 (G : Gl) (P : Nat) (x : RS) (nb : Nat) : Prop :=
 Rf x.rb /\ Rf x.rb /\ Rf x.rb /\ Rf x.rb /\ inI64 (IntKind.wrap IntKind.u64 ((x.fed : Int) - (x.num : Int))) /\ inI64 (x.dis + IntKind.wrap IntKind.u64 ((x.fed : Int) - (x.num : Int))) /\ Rf x.rb /\ (∃ x1 : RV, plOK x x1 /\ x.m = x.m /\ Rl x.rel /\ Rf x.rb /\ (x.off : Int) = (x1.off : Int) /\ (Rf x.sb /\ Ro) /\ Rf Value.nilIface /\ (Rf x.bb /\ Ro) /\ (x.bits : Int) = (x1.bits : Int) /\ (x.num : Int) = (x1.num : Int) /\ Rf x.big /\ (x.pk = x1.pk /\ x.pkn = x1.pkn) /\ x.dis + IntKind.wrap IntKind.u64 ((x.fed : Int) - (x.num : Int)) = x1.dis /\ (x.fed : Int) = (x1.fed : Int) /\ Rf (Value.pointer none) /\ (Rf x.bb /\ Ro) /\ Rf (Value.pointer none) /\ Rf x.sb /\ (Rf x.vs /\ Rf (ints x.bs)) /\ (x.off : Int) = (x1.off : Int) /\ x.prev = x1.prev /\ Rf x.bb /\ (Rf x.sb /\ Ro) /\ (x.pos : Int) = (x1.pos : Int) /\ (x.bv = x1.bv /\ x.bn = x1.bn) /\ (Rf 512 /\ x.arr = x1.arr) /\ ∀ x2 : RV, ((plOK x x2) -> (Rf x.rb /\ Br ((x2.pkn : Int) == (0 : Int)) (Rf x.rb /\ Rf x.rb /\ ∃ x3 : Nat, ∀ x4 : Fz, rsW (RS.mk x4 x.rel x.rb x.sb x.bb x.vs (nats (ints x.bs)) x.big x3 x2.off x2.bits x2.num x2.pk x2.pkn x2.dis x2.num x2.pos x2.bv x2.bn x2.arr x2.prev) /\ (Rf x.rb /\ Ro) /\ x4 = x4 /\ Rl x.rel /\ Rf x.rb /\ Rf (x2.off : Int) /\ (Rf x.sb /\ Ro) /\ Rf Value.nilIface /\ (Rf x.bb /\ Ro) /\ Rf (x2.bits : Int) /\ Rf (x2.num : Int) /\ Rf x.big /\ (Rf x2.pk /\ Rf x2.pkn) /\ Rf x2.dis /\ Rf (x2.num : Int) /\ Rf (Value.pointer none) /\ (Rf x.bb /\ Ro) /\ Rf (Value.pointer none) /\ Rf x.sb /\ (Rf x.vs /\ ints x.bs = ints (nats (ints x.bs))) /\ Rf (x2.off : Int) /\ Rf x2.prev /\ Rf x.bb /\ (Rf x.sb /\ Ro) /\ Rf (x2.pos : Int) /\ (Rf x2.bv /\ Rf x2.bn) /\ (Rf 512 /\ Rf x2.arr) /\ ∀ x5 : Unit, (True -> x4 = x4 /\ inI64 (IntKind.wrap IntKind.u64 ((↑nb : Int) + bitI BinOp.and IntKind.u64 (IntKind.wrap IntKind.u64 ((0 : Int) - (↑nb : Int))) (7 : Int))) /\ (8 : Int) ≠ (0 : Int) /\ (Rf x.rb /\ ∀ x6 : Fz, rbOK (RB.mk x6 x.rel x.bb x.sb x2.pos x2.bv x2.bn x2.arr x.vs (nats (ints (nats (ints x.bs)))) (((x3 + 7) / 8)) (-1 : Int)) /\ (Rf x.bb /\ Ro) /\ x6 = x6 /\ Rl x.rel /\ Rf x.bb /\ (Rf x.sb /\ Ro) /\ Rf (x2.pos : Int) /\ (Rf x2.bv /\ Rf x2.bn) /\ (Rf 512 /\ Rf x2.arr) /\ Rf x.sb /\ (Rf x.vs /\ ints (nats (ints x.bs)) = ints (nats (ints (nats (ints x.bs))))) /\ ((↑((x3 + 7) / 8) : Int) = (↑(((x3 + 7) / 8)) : Int)) /\ Rf (-1 : Int) /\ ∀ x7 : Value × Nat, ((x7.2 = x2.bn - (((x3 + 7) / 8) - x2.pos) /\ vw x.bb x2.arr (nats (ints (nats (ints x.bs)))) x7.1 x7.2 (((x3 + 7) / 8))) -> x6 = x6 /\ Br (decide (IntKind.wrap IntKind.i64 (Int.tdiv (IntKind.wrap IntKind.u64 ((↑nb : Int) + bitI BinOp.and IntKind.u64 (IntKind.wrap IntKind.u64 ((0 : Int) - (↑nb : Int))) (7 : Int))) (8 : Int)) < (x7.2 : Int))) (Rf x.rb /\ ∀ x8 : Fz, rbOK (RB.mk x8 x.rel x.bb x.sb ((((x3 + 7) / 8))) x7.1 x7.2 x2.arr x.vs (nats (ints (nats (ints (nats (ints x.bs)))))) ((((x3 + 7) / 8))) (-1 : Int)) /\ (Rf x.bb /\ Ro) /\ x8 = x8 /\ Rl x.rel /\ Rf x.bb /\ (Rf x.sb /\ Ro) /\ ((↑(((x3 + 7) / 8)) : Int) = (↑((((x3 + 7) / 8))) : Int)) /\ (Rf x7.1 /\ Rf x7.2) /\ (Rf 512 /\ Rf x2.arr) /\ Rf x.sb /\
 (Rf x.vs /\ ints (nats (ints (nats (ints x.bs)))) = ints (nats (ints (nats (ints (nats (ints x.bs))))))) /\ ((↑(((x3 + 7) / 8)) : Int) = (↑((((x3 + 7) / 8))) : Int)) /\ Rf (-1 : Int) /\ ∀ x9 : Value × Nat, ((x9.2 = x7.2 - ((((x3 + 7) / 8)) - (((x3 + 7) / 8))) /\ vw x.bb x2.arr (nats (ints (nats (ints (nats (ints x.bs)))))) x9.1 x9.2 ((((x3 + 7) / 8)))) -> x8 = x8 /\ ∃ x10 : RV × Nat, (flOK x x10.1 /\ x10.1.num = x2.num /\ (nb + 7) / 8 <= x10.2 /\ x10.1.bn <= x10.2 /\ x10.2 <= 512) /\ Rf Value.nilIface /\ (x9.2 : Int) = (x10.2 : Int) /\ x.m = x.m /\ Rl x.rel /\ Rf x.rb /\ ((↑((x3 + 7) / 8) : Int) = (x10.1.off : Int)) /\ (Rf x.sb /\ Ro) /\ Rf Value.nilIface /\ (Rf x.bb /\ Ro) /\ (x2.bits : Int) = (x10.1.bits : Int) /\ (x2.num : Int) = (x10.1.num : Int) /\ Rf x.big /\ (Value.slice none 0 0 = x10.1.pk /\ 0 = x10.1.pkn) /\ ((x3 : Int) - (8 : Int) * (↑((x3 + 7) / 8) : Int) = x10.1.dis) /\ (x2.num : Int) = (x10.1.fed : Int) /\ Rf (Value.pointer none) /\ (Rf x.bb /\ Ro) /\ Rf (Value.pointer none) /\ Rf x.sb /\ (Rf x.vs /\ ints (nats (ints (nats (ints (nats (ints x.bs)))))) = ints x.bs) /\ ((↑((((x3 + 7) / 8))) : Int) = (x10.1.off : Int)) /\ (-1 : Int) = x10.1.prev /\ Rf x.bb /\ (Rf x.sb /\ Ro) /\ ((↑((((x3 + 7) / 8))) : Int) = (x10.1.pos : Int)) /\ (x9.1 = x10.1.bv /\ x9.2 = x10.1.bn) /\ (Rf 512 /\ x2.arr = x10.1.arr) /\ True)) (∃ x8 : RV × Nat, (flOK x x8.1 /\ x8.1.num = x2.num /\ (nb + 7) / 8 <= x8.2 /\ x8.1.bn <= x8.2 /\ x8.2 <= 512) /\ Rf Value.nilIface /\ IntKind.wrap IntKind.i64 (Int.tdiv (IntKind.wrap IntKind.u64 ((↑nb : Int) + bitI BinOp.and IntKind.u64 (IntKind.wrap IntKind.u64 ((0 : Int) - (↑nb : Int))) (7 : Int))) (8 : Int)) = (x8.2 : Int) /\ x.m = x.m /\ Rl x.rel /\ Rf x.rb /\ ((↑((x3 + 7) / 8) : Int) = (x8.1.off : Int)) /\ (Rf x.sb /\ Ro) /\ Rf Value.nilIface /\ (Rf x.bb /\ Ro) /\ (x2.bits : Int) = (x8.1.bits : Int) /\ (x2.num : Int) = (x8.1.num : Int) /\ Rf x.big /\ (Value.slice none 0 0 = x8.1.pk /\ 0 = x8.1.pkn) /\ ((x3 : Int) - (8 : Int) * (↑((x3 + 7) / 8) : Int) = x8.1.dis) /\ (x2.num : Int) = (x8.1.fed : Int) /\ Rf (Value.pointer none) /\ (Rf x.bb /\ Ro) /\ Rf (Value.pointer none) /\ Rf x.sb /\ (Rf x.vs /\ ints (nats (ints (nats (ints x.bs)))) = ints x.bs) /\ ((↑(((x3 + 7) / 8)) : Int) = (x8.1.off : Int)) /\ (-1 : Int) = x8.1.prev /\ Rf x.bb /\ (Rf x.sb /\ Ro) /\ ((↑(((x3 + 7) / 8)) : Int) = (x8.1.pos : Int)) /\ (x7.1 = x8.1.bv /\ x7.2 = x8.1.bn) /\ (Rf 512 /\ x2.arr = x8.1.arr) /\ True))) /\ (∀ x6 : RV × Nat, ((flOK x x6.1 /\ x6.1.num = x2.num /\ (nb + 7) / 8 <= x6.2 /\ x6.1.bn <= x6.2 /\ x6.2 <= 512) -> Rf x.rb /\ ∀ x7 : Fz, (rbOK (RB.mk x7 x.rel x.bb x.sb x6.1.pos x6.1.bv x6.1.bn x6.1.arr x.vs (nats (ints x.bs)) x6.1.off x6.1.prev) /\ x6.2 <= 512) /\ (Rf x.bb /\ Ro) /\ Rf (x6.2 : Int) /\ x7 = x7 /\ Rl x.rel /\ Rf x.bb /\ (Rf x.sb /\ Ro) /\ Rf (x6.1.pos : Int) /\ (Rf x6.1.bv /\ Rf x6.1.bn) /\ (Rf 512 /\ Rf x6.1.arr) /\ Rf x.sb /\ (Rf x.vs /\ ints x.bs = ints (nats (ints x.bs))) /\ Rf (x6.1.off : Int) /\ Rf x6.1.prev /\
 (∀ x8 : Y214, ((x6.2 <= List.length (nats (ints x.bs)) - x6.1.off /\ pk214 (RB.mk x7 x.rel x.bb x.sb x6.1.pos x6.1.bv x6.1.bn x6.1.arr x.vs (nats (ints x.bs)) x6.1.off x6.1.prev) x6.2 x6.2 x8) -> x7 = x7 /\ Rf x.rb /\ Rf x.rb /\ Rf x.rb /\ (8 : Int) ≠ (0 : Int) /\ inI64 (IntKind.wrap IntKind.u64 (Int.tdiv (x6.1.num : Int) (8 : Int))) /\ ((0 : Int) <= IntKind.wrap IntKind.u64 (Int.tdiv (x6.1.num : Int) (8 : Int)) /\ IntKind.wrap IntKind.u64 (Int.tdiv (x6.1.num : Int) (8 : Int)) <= (x6.2 : Int) /\ (x6.2 : Int) <= (↑(capVal x8.pv) : Int)) /\ Rf x.rb /\ Rf x.rb /\ Br ((↑(x6.2 - Int.toNat (IntKind.wrap IntKind.u64 (Int.tdiv (x6.1.num : Int) (8 : Int)))) : Int) == (0 : Int)) (Rf x.rb /\ Br (decide ((x6.1.num : Int) >= (↑nb : Int))) (∃ x9 : RV, (plOK x x9 /\ nb <= x9.num) /\ x.m = x.m /\ Rl x.rel /\ Rf x.rb /\ (x6.1.off : Int) = (x9.off : Int) /\ (Rf x.sb /\ Ro) /\ Rf Value.nilIface /\ (Rf x.bb /\ Ro) /\ (x6.1.bits : Int) = (x9.bits : Int) /\ (x6.1.num : Int) = (x9.num : Int) /\ Rf x.big /\ (sliceVal x8.pv (Int.toNat (IntKind.wrap IntKind.u64 (Int.tdiv (x6.1.num : Int) (8 : Int)))) x6.2 1 = x9.pk /\ x6.2 - Int.toNat (IntKind.wrap IntKind.u64 (Int.tdiv (x6.1.num : Int) (8 : Int))) = x9.pkn) /\ x6.1.dis = x9.dis /\ (x6.1.fed : Int) = (x9.fed : Int) /\ Rf (Value.pointer none) /\ (Rf x.bb /\ Ro) /\ Rf (Value.pointer none) /\ Rf x.sb /\ (Rf x.vs /\ ints (nats (ints x.bs)) = ints x.bs) /\ (x6.1.off : Int) = (x9.off : Int) /\ (-1 : Int) = x9.prev /\ Rf x.bb /\ (Rf x.sb /\ Ro) /\ (x6.1.off : Int) = (x9.pos : Int) /\ (x8.bv = x9.bv /\ x8.bn = x9.bn) /\ (Rf 512 /\ x8.arr = x9.arr) /\ True) (((∃ x9 : RV, pulled x nb x9 /\ Rf Value.nilIface /\ x.m = x.m /\ Rl x.rel /\ Rf x.rb /\ (x6.1.off : Int) = (x9.off : Int) /\ (Rf x.sb /\ Ro) /\ Rf Value.nilIface /\ (Rf x.bb /\ Ro) /\ (x6.1.bits : Int) = (x9.bits : Int) /\ (x6.1.num : Int) = (x9.num : Int) /\ Rf x.big /\ (sliceVal x8.pv (Int.toNat (IntKind.wrap IntKind.u64 (Int.tdiv (x6.1.num : Int) (8 : Int)))) x6.2 1 = x9.pk /\ x6.2 - Int.toNat (IntKind.wrap IntKind.u64 (Int.tdiv (x6.1.num : Int) (8 : Int))) = x9.pkn) /\ x6.1.dis = x9.dis /\ (x6.1.fed : Int) = (x9.fed : Int) /\ Rf (Value.pointer none) /\ (Rf x.bb /\ Ro) /\ Rf (Value.pointer none) /\ Rf x.sb /\ (Rf x.vs /\ ints (nats (ints x.bs)) = ints x.bs) /\ (x6.1.off : Int) = (x9.off : Int) /\ (-1 : Int) = x9.prev /\ Rf x.bb /\ (Rf x.sb /\ Ro) /\ (x6.1.off : Int) = (x9.pos : Int) /\ (x8.bv = x9.bv /\ x8.bn = x9.bn) /\ (Rf 512 /\ x8.arr = x9.arr) /\ True) \/ (∃ x9 : RV, dry x nb x9 /\ Value.nilIface = errV (Gl.U G) /\ x.m = x.m /\ Rl x.rel /\ Rf x.rb /\ (x6.1.off : Int) = (x9.off : Int) /\ (Rf x.sb /\ Ro) /\ Rf Value.nilIface /\ (Rf x.bb /\ Ro) /\ (x6.1.bits : Int) = (x9.bits : Int) /\ (x6.1.num : Int) = (x9.num : Int) /\ Rf x.big /\ (sliceVal x8.pv (Int.toNat (IntKind.wrap IntKind.u64 (Int.tdiv (x6.1.num : Int) (8 : Int)))) x6.2 1 = x9.pk /\ x6.2 - Int.toNat (IntKind.wrap IntKind.u64 (Int.tdiv (x6.1.num : Int) (8 : Int))) = x9.pkn) /\ x6.1.dis = x9.dis /\ (x6.1.fed : Int) = (x9.fed : Int) /\ Rf (Value.pointer none) /\ (Rf x.bb /\ Ro) /\ Rf (Value.pointer none) /\ Rf x.sb /\
 (Rf x.vs /\ ints (nats (ints x.bs)) = ints x.bs) /\ (x6.1.off : Int) = (x9.off : Int) /\ (-1 : Int) = x9.prev /\ Rf x.bb /\ (Rf x.sb /\ Ro) /\ (x6.1.off : Int) = (x9.pos : Int) /\ (x8.bv = x9.bv /\ x8.bn = x9.bn) /\ (Rf 512 /\ x8.arr = x9.arr) /\ True)))) (∃ x9 : RV, (plOK x x9 /\ 0 < x9.pkn /\ x9.num = x2.num) /\ x.m = x.m /\ Rl x.rel /\ Rf x.rb /\ (x6.1.off : Int) = (x9.off : Int) /\ (Rf x.sb /\ Ro) /\ Rf Value.nilIface /\ (Rf x.bb /\ Ro) /\ (x6.1.bits : Int) = (x9.bits : Int) /\ (x6.1.num : Int) = (x9.num : Int) /\ Rf x.big /\ (sliceVal x8.pv (Int.toNat (IntKind.wrap IntKind.u64 (Int.tdiv (x6.1.num : Int) (8 : Int)))) x6.2 1 = x9.pk /\ x6.2 - Int.toNat (IntKind.wrap IntKind.u64 (Int.tdiv (x6.1.num : Int) (8 : Int))) = x9.pkn) /\ x6.1.dis = x9.dis /\ (x6.1.fed : Int) = (x9.fed : Int) /\ Rf (Value.pointer none) /\ (Rf x.bb /\ Ro) /\ Rf (Value.pointer none) /\ Rf x.sb /\ (Rf x.vs /\ ints (nats (ints x.bs)) = ints x.bs) /\ (x6.1.off : Int) = (x9.off : Int) /\ (-1 : Int) = x9.prev /\ Rf x.bb /\ (Rf x.sb /\ Ro) /\ (x6.1.off : Int) = (x9.pos : Int) /\ (x8.bv = x9.bv /\ x8.bn = x9.bn) /\ (Rf 512 /\ x8.arr = x9.arr) /\ True))) /\ (∀ x8 : Y214, ((List.length (nats (ints x.bs)) - x6.1.off < x6.2 /\ pk214 (RB.mk x7 x.rel x.bb x.sb x6.1.pos x6.1.bv x6.1.bn x6.1.arr x.vs (nats (ints x.bs)) x6.1.off x6.1.prev) x6.2 (List.length (nats (ints x.bs)) - x6.1.off) x8) -> x7 = x7 /\ Rf x.rb /\ Rf x.rb /\ Rf x.rb /\ (8 : Int) ≠ (0 : Int) /\ inI64 (IntKind.wrap IntKind.u64 (Int.tdiv (x6.1.num : Int) (8 : Int))) /\ ((0 : Int) <= IntKind.wrap IntKind.u64 (Int.tdiv (x6.1.num : Int) (8 : Int)) /\ IntKind.wrap IntKind.u64 (Int.tdiv (x6.1.num : Int) (8 : Int)) <= (↑(List.length (nats (ints x.bs)) - x6.1.off) : Int) /\ (↑(List.length (nats (ints x.bs)) - x6.1.off) : Int) <= (↑(capVal x8.pv) : Int)) /\ Rf x.rb /\ Rf x.rb /\ Br ((↑((List.length (nats (ints x.bs)) - x6.1.off) - Int.toNat (IntKind.wrap IntKind.u64 (Int.tdiv (x6.1.num : Int) (8 : Int)))) : Int) == (0 : Int)) (Rf x.rb /\ Br (decide ((x6.1.num : Int) >= (↑nb : Int))) (∃ x9 : RV, (plOK x x9 /\ nb <= x9.num) /\ x.m = x.m /\ Rl x.rel /\ Rf x.rb /\ (x6.1.off : Int) = (x9.off : Int) /\ (Rf x.sb /\ Ro) /\ Rf Value.nilIface /\ (Rf x.bb /\ Ro) /\ (x6.1.bits : Int) = (x9.bits : Int) /\ (x6.1.num : Int) = (x9.num : Int) /\ Rf x.big /\ (sliceVal x8.pv (Int.toNat (IntKind.wrap IntKind.u64 (Int.tdiv (x6.1.num : Int) (8 : Int)))) ((List.length (nats (ints x.bs)) - x6.1.off)) 1 = x9.pk /\ (List.length (nats (ints x.bs)) - x6.1.off) - Int.toNat (IntKind.wrap IntKind.u64 (Int.tdiv (x6.1.num : Int) (8 : Int))) = x9.pkn) /\ x6.1.dis = x9.dis /\ (x6.1.fed : Int) = (x9.fed : Int) /\ Rf (Value.pointer none) /\ (Rf x.bb /\ Ro) /\ Rf (Value.pointer none) /\ Rf x.sb /\ (Rf x.vs /\ ints (nats (ints x.bs)) = ints x.bs) /\ (x6.1.off : Int) = (x9.off : Int) /\ (-1 : Int) = x9.prev /\ Rf x.bb /\ (Rf x.sb /\ Ro) /\ (x6.1.off : Int) = (x9.pos : Int) /\ (x8.bv = x9.bv /\ x8.bn = x9.bn) /\ (Rf 512 /\ x8.arr = x9.arr) /\ True) (Rf (Gl.E G) /\ ((∃ x9 : RV, pulled x nb x9 /\ errV (Gl.U G) = Value.nilIface /\ x.m = x.m /\ Rl x.rel /\ Rf x.rb /\
 (x6.1.off : Int) = (x9.off : Int) /\ (Rf x.sb /\ Ro) /\ Rf Value.nilIface /\ (Rf x.bb /\ Ro) /\ (x6.1.bits : Int) = (x9.bits : Int) /\ (x6.1.num : Int) = (x9.num : Int) /\ Rf x.big /\ (sliceVal x8.pv (Int.toNat (IntKind.wrap IntKind.u64 (Int.tdiv (x6.1.num : Int) (8 : Int)))) ((List.length (nats (ints x.bs)) - x6.1.off)) 1 = x9.pk /\ (List.length (nats (ints x.bs)) - x6.1.off) - Int.toNat (IntKind.wrap IntKind.u64 (Int.tdiv (x6.1.num : Int) (8 : Int))) = x9.pkn) /\ x6.1.dis = x9.dis /\ (x6.1.fed : Int) = (x9.fed : Int) /\ Rf (Value.pointer none) /\ (Rf x.bb /\ Ro) /\ Rf (Value.pointer none) /\ Rf x.sb /\ (Rf x.vs /\ ints (nats (ints x.bs)) = ints x.bs) /\ (x6.1.off : Int) = (x9.off : Int) /\ (-1 : Int) = x9.prev /\ Rf x.bb /\ (Rf x.sb /\ Ro) /\ (x6.1.off : Int) = (x9.pos : Int) /\ (x8.bv = x9.bv /\ x8.bn = x9.bn) /\ (Rf 512 /\ x8.arr = x9.arr) /\ True) \/ (∃ x9 : RV, dry x nb x9 /\ Rf (errV (Gl.U G)) /\ x.m = x.m /\ Rl x.rel /\ Rf x.rb /\ (x6.1.off : Int) = (x9.off : Int) /\ (Rf x.sb /\ Ro) /\ Rf Value.nilIface /\ (Rf x.bb /\ Ro) /\ (x6.1.bits : Int) = (x9.bits : Int) /\ (x6.1.num : Int) = (x9.num : Int) /\ Rf x.big /\ (sliceVal x8.pv (Int.toNat (IntKind.wrap IntKind.u64 (Int.tdiv (x6.1.num : Int) (8 : Int)))) ((List.length (nats (ints x.bs)) - x6.1.off)) 1 = x9.pk /\ (List.length (nats (ints x.bs)) - x6.1.off) - Int.toNat (IntKind.wrap IntKind.u64 (Int.tdiv (x6.1.num : Int) (8 : Int))) = x9.pkn) /\ x6.1.dis = x9.dis /\ (x6.1.fed : Int) = (x9.fed : Int) /\ Rf (Value.pointer none) /\ (Rf x.bb /\ Ro) /\ Rf (Value.pointer none) /\ Rf x.sb /\ (Rf x.vs /\ ints (nats (ints x.bs)) = ints x.bs) /\ (x6.1.off : Int) = (x9.off : Int) /\ (-1 : Int) = x9.prev /\ Rf x.bb /\ (Rf x.sb /\ Ro) /\ (x6.1.off : Int) = (x9.pos : Int) /\ (x8.bv = x9.bv /\ x8.bn = x9.bn) /\ (Rf 512 /\ x8.arr = x9.arr) /\ True)))) (∃ x9 : RV, (plOK x x9 /\ 0 < x9.pkn /\ x9.num = x2.num) /\ x.m = x.m /\ Rl x.rel /\ Rf x.rb /\ (x6.1.off : Int) = (x9.off : Int) /\ (Rf x.sb /\ Ro) /\ Rf Value.nilIface /\ (Rf x.bb /\ Ro) /\ (x6.1.bits : Int) = (x9.bits : Int) /\ (x6.1.num : Int) = (x9.num : Int) /\ Rf x.big /\ (sliceVal x8.pv (Int.toNat (IntKind.wrap IntKind.u64 (Int.tdiv (x6.1.num : Int) (8 : Int)))) ((List.length (nats (ints x.bs)) - x6.1.off)) 1 = x9.pk /\ (List.length (nats (ints x.bs)) - x6.1.off) - Int.toNat (IntKind.wrap IntKind.u64 (Int.tdiv (x6.1.num : Int) (8 : Int))) = x9.pkn) /\ x6.1.dis = x9.dis /\ (x6.1.fed : Int) = (x9.fed : Int) /\ Rf (Value.pointer none) /\ (Rf x.bb /\ Ro) /\ Rf (Value.pointer none) /\ Rf x.sb /\ (Rf x.vs /\ ints (nats (ints x.bs)) = ints x.bs) /\ (x6.1.off : Int) = (x9.off : Int) /\ (-1 : Int) = x9.prev /\ Rf x.bb /\ (Rf x.sb /\ Ro) /\ (x6.1.off : Int) = (x9.pos : Int) /\ (x8.bv = x9.bv /\ x8.bn = x9.bn) /\ (Rf 512 /\ x8.arr = x9.arr) /\ True))))))) (∃ x3 : RV, (plOK x x3 /\ 0 < x3.pkn /\ x3.num = x2.num) /\ x.m = x.m /\ Rl x.rel /\ Rf x.rb /\ (x2.off : Int) = (x3.off : Int) /\ (Rf x.sb /\ Ro) /\ Rf Value.nilIface /\ (Rf x.bb /\ Ro) /\ (x2.bits : Int) = (x3.bits : Int) /\ (x2.num : Int) = (x3.num : Int) /\ Rf x.big /\ (x2.pk = x3.pk /\ x2.pkn = x3.pkn) /\ x2.dis = x3.dis /\
 (x2.fed : Int) = (x3.fed : Int) /\ Rf (Value.pointer none) /\ (Rf x.bb /\ Ro) /\ Rf (Value.pointer none) /\ Rf x.sb /\ (Rf x.vs /\ Rf (ints x.bs)) /\ (x2.off : Int) = (x3.off : Int) /\ x2.prev = x3.prev /\ Rf x.bb /\ (Rf x.sb /\ Ro) /\ (x2.pos : Int) = (x3.pos : Int) /\ (x2.bv = x3.bv /\ x2.bn = x3.bn) /\ (Rf 512 /\ x2.arr = x3.arr) /\ True)) /\ (∀ x3 : RV, ((plOK x x3 /\ 0 < x3.pkn /\ x3.num = x2.num) -> Rf x.rb /\ inI64 (IntKind.wrap IntKind.u64 ((64 : Int) - (x3.num : Int))) /\ (8 : Int) ≠ (0 : Int) /\ Rf x.rb /\ Br (decide ((x3.pkn : Int) >= (8 : Int))) ((Rf x.rb /\ ∀ x4 : Nat, ∃ x5 : Nat × Nat, x3.pk = Value.slice (some (Addr.mk x.bb ((3 : Nat) + x5.1 * 1) none)) x3.pkn x5.2 /\ inRange (7 : Int) x3.pkn /\ Rf x.bb /\ x5.1 + 7 < x3.arr.length /\ ∀ x6 : Int, ((x3.arr[x5.1 + 7]? = some x6) -> ∃ x7 : Nat × Nat, x3.pk = Value.slice (some (Addr.mk x.bb ((3 : Nat) + x7.1 * 1) none)) x3.pkn x7.2 /\ inRange (0 : Int) x3.pkn /\ Rf x.bb /\ x7.1 + 0 < x3.arr.length /\ ∀ x8 : Int, ((x3.arr[x7.1 + 0]? = some x8) -> ∃ x9 : Nat × Nat, x3.pk = Value.slice (some (Addr.mk x.bb ((3 : Nat) + x9.1 * 1) none)) x3.pkn x9.2 /\ inRange (1 : Int) x3.pkn /\ Rf x.bb /\ x9.1 + 1 < x3.arr.length /\ ∀ x10 : Int, ((x3.arr[x9.1 + 1]? = some x10) -> (0 : Int) <= (8 : Int) /\ ∃ x11 : Nat × Nat, x3.pk = Value.slice (some (Addr.mk x.bb ((3 : Nat) + x11.1 * 1) none)) x3.pkn x11.2 /\ inRange (2 : Int) x3.pkn /\ Rf x.bb /\ x11.1 + 2 < x3.arr.length /\ ∀ x12 : Int, ((x3.arr[x11.1 + 2]? = some x12) -> (0 : Int) <= (16 : Int) /\ ∃ x13 : Nat × Nat, x3.pk = Value.slice (some (Addr.mk x.bb ((3 : Nat) + x13.1 * 1) none)) x3.pkn x13.2 /\ inRange (3 : Int) x3.pkn /\ Rf x.bb /\ x13.1 + 3 < x3.arr.length /\ ∀ x14 : Int, ((x3.arr[x13.1 + 3]? = some x14) -> (0 : Int) <= (24 : Int) /\ ∃ x15 : Nat × Nat, x3.pk = Value.slice (some (Addr.mk x.bb ((3 : Nat) + x15.1 * 1) none)) x3.pkn x15.2 /\ inRange (4 : Int) x3.pkn /\ Rf x.bb /\ x15.1 + 4 < x3.arr.length /\ ∀ x16 : Int, ((x3.arr[x15.1 + 4]? = some x16) -> (0 : Int) <= (32 : Int) /\ ∃ x17 : Nat × Nat, x3.pk = Value.slice (some (Addr.mk x.bb ((3 : Nat) + x17.1 * 1) none)) x3.pkn x17.2 /\ inRange (5 : Int) x3.pkn /\ Rf x.bb /\ x17.1 + 5 < x3.arr.length /\ ∀ x18 : Int, ((x3.arr[x17.1 + 5]? = some x18) -> (0 : Int) <= (40 : Int) /\ ∃ x19 : Nat × Nat, x3.pk = Value.slice (some (Addr.mk x.bb ((3 : Nat) + x19.1 * 1) none)) x3.pkn x19.2 /\ inRange (6 : Int) x3.pkn /\ Rf x.bb /\ x19.1 + 6 < x3.arr.length /\ ∀ x20 : Int, ((x3.arr[x19.1 + 6]? = some x20) -> (0 : Int) <= (48 : Int) /\ ∃ x21 : Nat × Nat, x3.pk = Value.slice (some (Addr.mk x.bb ((3 : Nat) + x21.1 * 1) none)) x3.pkn x21.2 /\ inRange (7 : Int) x3.pkn /\ Rf x.bb /\ x21.1 + 7 < x3.arr.length /\ ∀ x22 : Int, ((x3.arr[x21.1 + 7]? = some x22) -> (0 : Int) <= (56 : Int) /\ ∃ x23 : Unit, True /\
 (bitI BinOp.or IntKind.u64 (bitI BinOp.or IntKind.u64 (bitI BinOp.or IntKind.u64 (bitI BinOp.or IntKind.u64 (bitI BinOp.or IntKind.u64 (bitI BinOp.or IntKind.u64 (bitI BinOp.or IntKind.u64 (IntKind.wrap IntKind.u64 x8) (shlI IntKind.u64 (IntKind.wrap IntKind.u64 x10) (8 : Int))) (shlI IntKind.u64 (IntKind.wrap IntKind.u64 x12) (16 : Int))) (shlI IntKind.u64 (IntKind.wrap IntKind.u64 x14) (24 : Int))) (shlI IntKind.u64 (IntKind.wrap IntKind.u64 x16) (32 : Int))) (shlI IntKind.u64 (IntKind.wrap IntKind.u64 x18) (40 : Int))) (shlI IntKind.u64 (IntKind.wrap IntKind.u64 x20) (48 : Int))) (shlI IntKind.u64 (IntKind.wrap IntKind.u64 x22) (56 : Int)) = (↑(wd8 false x.bs ((x.P + x3.num) / 8)) : Int)) /\ x.m = x.m /\ Rl x.rel /\ Rf x.rb /\ Rf (x3.off : Int) /\ (Rf x.sb /\ Ro) /\ Rf Value.nilIface /\ (Rf x.bb /\ Ro) /\ Rf (x3.bits : Int) /\ Rf (x3.num : Int) /\ Rf x.big /\ (Rf x3.pk /\ Rf x3.pkn) /\ Rf x3.dis /\ Rf (x3.fed : Int) /\ Rf (Value.pointer none) /\ (Rf x.bb /\ Ro) /\ Rf (Value.pointer none) /\ Rf x.sb /\ (Rf x.vs /\ Rf (ints x.bs)) /\ Rf (x3.off : Int) /\ Rf x3.prev /\ Rf x.bb /\ (Rf x.sb /\ Ro) /\ Rf (x3.pos : Int) /\ (Rf x3.bv /\ Rf x3.bn) /\ (Rf 512 /\ Rf x3.arr) /\ True)))))))))) /\ (∀ x4 : Unit, (True -> (Rf x.rb /\ Br x.big ((0 : Int) <= (1 : Int) /\ (0 : Int) <= (1 : Int) /\ (0 : Int) <= (2 : Int) /\ (0 : Int) <= (2 : Int) /\ (0 : Int) <= (4 : Int) /\ (0 : Int) <= (4 : Int) /\ ∃ x5 : Unit, True /\
 (bitI BinOp.or IntKind.u64 (shrI IntKind.u64 (bitI BinOp.and IntKind.u64 (bitI BinOp.or IntKind.u64 (shrI IntKind.u64 (bitI BinOp.and IntKind.u64 (bitI BinOp.or IntKind.u64 (shrI IntKind.u64 (bitI BinOp.and IntKind.u64 (↑(wd8 false x.bs ((x.P + x3.num) / 8)) : Int) (12297829382473034410 : Int)) (1 : Int)) (shlI IntKind.u64 (bitI BinOp.and IntKind.u64 (↑(wd8 false x.bs ((x.P + x3.num) / 8)) : Int) (6148914691236517205 : Int)) (1 : Int))) (14757395258967641292 : Int)) (2 : Int)) (shlI IntKind.u64 (bitI BinOp.and IntKind.u64 (bitI BinOp.or IntKind.u64 (shrI IntKind.u64 (bitI BinOp.and IntKind.u64 (↑(wd8 false x.bs ((x.P + x3.num) / 8)) : Int) (12297829382473034410 : Int)) (1 : Int)) (shlI IntKind.u64 (bitI BinOp.and IntKind.u64 (↑(wd8 false x.bs ((x.P + x3.num) / 8)) : Int) (6148914691236517205 : Int)) (1 : Int))) (3689348814741910323 : Int)) (2 : Int))) (17361641481138401520 : Int)) (4 : Int)) (shlI IntKind.u64 (bitI BinOp.and IntKind.u64 (bitI BinOp.or IntKind.u64 (shrI IntKind.u64 (bitI BinOp.and IntKind.u64 (bitI BinOp.or IntKind.u64 (shrI IntKind.u64 (bitI BinOp.and IntKind.u64 (↑(wd8 false x.bs ((x.P + x3.num) / 8)) : Int) (12297829382473034410 : Int)) (1 : Int)) (shlI IntKind.u64 (bitI BinOp.and IntKind.u64 (↑(wd8 false x.bs ((x.P + x3.num) / 8)) : Int) (6148914691236517205 : Int)) (1 : Int))) (14757395258967641292 : Int)) (2 : Int)) (shlI IntKind.u64 (bitI BinOp.and IntKind.u64 (bitI BinOp.or IntKind.u64 (shrI IntKind.u64 (bitI BinOp.and IntKind.u64 (↑(wd8 false x.bs ((x.P + x3.num) / 8)) : Int) (12297829382473034410 : Int)) (1 : Int)) (shlI IntKind.u64 (bitI BinOp.and IntKind.u64 (↑(wd8 false x.bs ((x.P + x3.num) / 8)) : Int) (6148914691236517205 : Int)) (1 : Int))) (3689348814741910323 : Int)) (2 : Int))) (1085102592571150095 : Int)) (4 : Int)) = (↑(wd8 x.big x.bs ((x.P + x3.num) / 8)) : Int)) /\ x.m = x.m /\ Rl x.rel /\ Rf x.rb /\ Rf (x3.off : Int) /\ (Rf x.sb /\ Ro) /\ Rf Value.nilIface /\ (Rf x.bb /\ Ro) /\ Rf (x3.bits : Int) /\ Rf (x3.num : Int) /\ Rf x.big /\ (Rf x3.pk /\ Rf x3.pkn) /\ Rf x3.dis /\ Rf (x3.fed : Int) /\ Rf (Value.pointer none) /\ (Rf x.bb /\ Ro) /\ Rf (Value.pointer none) /\ Rf x.sb /\ (Rf x.vs /\ Rf (ints x.bs)) /\ Rf (x3.off : Int) /\ Rf x3.prev /\ Rf x.bb /\ (Rf x.sb /\ Ro) /\ Rf (x3.pos : Int) /\ (Rf x3.bv /\ Rf x3.bn) /\ (Rf 512 /\ Rf x3.arr) /\ True) (∃ x5 : Unit, True /\ ((↑(wd8 false x.bs ((x.P + x3.num) / 8)) : Int) = (↑(wd8 x.big x.bs ((x.P + x3.num) / 8)) : Int)) /\ x.m = x.m /\ Rl x.rel /\ Rf x.rb /\ Rf (x3.off : Int) /\ (Rf x.sb /\ Ro) /\ Rf Value.nilIface /\ (Rf x.bb /\ Ro) /\ Rf (x3.bits : Int) /\ Rf (x3.num : Int) /\ Rf x.big /\ (Rf x3.pk /\ Rf x3.pkn) /\ Rf x3.dis /\ Rf (x3.fed : Int) /\ Rf (Value.pointer none) /\ (Rf x.bb /\ Ro) /\ Rf (Value.pointer none) /\ Rf x.sb /\ (Rf x.vs /\ Rf (ints x.bs)) /\ Rf (x3.off : Int) /\ Rf x3.prev /\ Rf x.bb /\ (Rf x.sb /\ Ro) /\ Rf (x3.pos : Int) /\ (Rf x3.bv /\ Rf x3.bn) /\ (Rf 512 /\ Rf x3.arr) /\ True)) /\ (∀ x5 : Unit, (True -> Rf x.rb /\ Rf x.rb /\ (0 : Int) <= (x3.num : Int) /\ Rf x.rb /\ Rf x.rb /\
 inI64 (IntKind.wrap IntKind.i64 (Int.tdiv (IntKind.wrap IntKind.u64 ((64 : Int) - (x3.num : Int))) (8 : Int)) * (8 : Int)) /\ Rf x.rb /\ Rf x.rb /\ ((0 : Int) <= IntKind.wrap IntKind.i64 (Int.tdiv (IntKind.wrap IntKind.u64 ((64 : Int) - (x3.num : Int))) (8 : Int)) /\ IntKind.wrap IntKind.i64 (Int.tdiv (IntKind.wrap IntKind.u64 ((64 : Int) - (x3.num : Int))) (8 : Int)) <= (x3.pkn : Int) /\ (x3.pkn : Int) <= (↑(capVal x3.pk) : Int)) /\ Rf x.rb /\ ∃ x6 : RV, (plOK x x6 /\ nb <= x6.num) /\ x.m = x.m /\ Rl x.rel /\ Rf x.rb /\ (x3.off : Int) = (x6.off : Int) /\ (Rf x.sb /\ Ro) /\ Rf Value.nilIface /\ (Rf x.bb /\ Ro) /\ (bitI BinOp.or IntKind.u64 (x3.bits : Int) (shlI IntKind.u64 (↑(wd8 x.big x.bs ((x.P + x3.num) / 8)) : Int) (x3.num : Int)) = (x6.bits : Int)) /\ IntKind.wrap IntKind.u64 ((x3.num : Int) + IntKind.wrap IntKind.u64 (IntKind.wrap IntKind.i64 (Int.tdiv (IntKind.wrap IntKind.u64 ((64 : Int) - (x3.num : Int))) (8 : Int)) * (8 : Int))) = (x6.num : Int) /\ Rf x.big /\ (sliceVal x3.pk (Int.toNat (IntKind.wrap IntKind.i64 (Int.tdiv (IntKind.wrap IntKind.u64 ((64 : Int) - (x3.num : Int))) (8 : Int)))) x3.pkn 1 = x6.pk /\ x3.pkn - Int.toNat (IntKind.wrap IntKind.i64 (Int.tdiv (IntKind.wrap IntKind.u64 ((64 : Int) - (x3.num : Int))) (8 : Int))) = x6.pkn) /\ x3.dis = x6.dis /\ (x3.fed : Int) = (x6.fed : Int) /\ Rf (Value.pointer none) /\ (Rf x.bb /\ Ro) /\ Rf (Value.pointer none) /\ Rf x.sb /\ (Rf x.vs /\ Rf (ints x.bs)) /\ (x3.off : Int) = (x6.off : Int) /\ x3.prev = x6.prev /\ Rf x.bb /\ (Rf x.sb /\ Ro) /\ (x3.pos : Int) = (x6.pos : Int) /\ (x3.bv = x6.bv /\ x3.bn = x6.bn) /\ (Rf 512 /\ x3.arr = x6.arr) /\ True))))) ((Rf x.rb /\ Br (decide (IntKind.wrap IntKind.i64 (Int.tdiv (IntKind.wrap IntKind.u64 ((64 : Int) - (x3.num : Int))) (8 : Int)) > (x3.pkn : Int))) (Rf x.rb /\ ∃ x4 : Unit, True /\ ((x3.pkn : Int) = (↑(min (((64 : Nat) - x3.num) / 8) x3.pkn) : Int)) /\ x.m = x.m /\ Rl x.rel /\ Rf x.rb /\ Rf (x3.off : Int) /\ (Rf x.sb /\ Ro) /\ Rf Value.nilIface /\ (Rf x.bb /\ Ro) /\ Rf (x3.bits : Int) /\ Rf (x3.num : Int) /\ Rf x.big /\ (Rf x3.pk /\ Rf x3.pkn) /\ Rf x3.dis /\ Rf (x3.fed : Int) /\ Rf (Value.pointer none) /\ (Rf x.bb /\ Ro) /\ Rf (Value.pointer none) /\ Rf x.sb /\ (Rf x.vs /\ Rf (ints x.bs)) /\ Rf (x3.off : Int) /\ Rf x3.prev /\ Rf x.bb /\ (Rf x.sb /\ Ro) /\ Rf (x3.pos : Int) /\ (Rf x3.bv /\ Rf x3.bn) /\ (Rf 512 /\ Rf x3.arr) /\ True) (∃ x4 : Unit, True /\ (IntKind.wrap IntKind.i64 (Int.tdiv (IntKind.wrap IntKind.u64 ((64 : Int) - (x3.num : Int))) (8 : Int)) = (↑(min (((64 : Nat) - x3.num) / 8) x3.pkn) : Int)) /\ x.m = x.m /\ Rl x.rel /\ Rf x.rb /\ Rf (x3.off : Int) /\ (Rf x.sb /\ Ro) /\ Rf Value.nilIface /\ (Rf x.bb /\ Ro) /\ Rf (x3.bits : Int) /\ Rf (x3.num : Int) /\ Rf x.big /\ (Rf x3.pk /\ Rf x3.pkn) /\ Rf x3.dis /\ Rf (x3.fed : Int) /\ Rf (Value.pointer none) /\ (Rf x.bb /\ Ro) /\ Rf (Value.pointer none) /\ Rf x.sb /\ (Rf x.vs /\ Rf (ints x.bs)) /\ Rf (x3.off : Int) /\ Rf x3.prev /\ Rf x.bb /\ (Rf x.sb /\ Ro) /\ Rf (x3.pos : Int) /\ (Rf x3.bv /\ Rf x3.bn) /\ (Rf 512 /\ Rf x3.arr) /\ True)) /\ (∀ x4 : Unit, (True -> Rf x.rb /\
 ((0 : Int) <= (0 : Int) /\ (0 : Int) <= (↑(min (((64 : Nat) - x3.num) / 8) x3.pkn) : Int) /\ (↑(min (((64 : Nat) - x3.num) / 8) x3.pkn) : Int) <= (↑(capVal x3.pk) : Int)) /\ ∃ x5 : Nat × Nat, (x5.1 <= (min (((64 : Nat) - x3.num) / 8) x3.pkn) /\ bkOK (RS.W x) x5.2 (x3.num + 8 * x5.1)) /\ (0 : Int) = (x5.1 : Int) /\ x.m = x.m /\ Rl x.rel /\ Rf x.rb /\ Rf (x3.off : Int) /\ (Rf x.sb /\ Ro) /\ Rf Value.nilIface /\ (Rf x.bb /\ Ro) /\ (x3.bits : Int) = (x5.2 : Int) /\ (x3.num : Int) = (↑(x3.num + 8 * x5.1) : Int) /\ Rf x.big /\ (Rf x3.pk /\ Rf x3.pkn) /\ Rf x3.dis /\ Rf (x3.fed : Int) /\ Rf (Value.pointer none) /\ (Rf x.bb /\ Ro) /\ Rf (Value.pointer none) /\ Rf x.sb /\ (Rf x.vs /\ Rf (ints x.bs)) /\ Rf (x3.off : Int) /\ Rf x3.prev /\ Rf x.bb /\ (Rf x.sb /\ Ro) /\ Rf (x3.pos : Int) /\ (Rf x3.bv /\ Rf x3.bn) /\ (Rf 512 /\ Rf x3.arr) /\ ∀ x6 : Nat × Nat, ((x6.1 <= (min (((64 : Nat) - x3.num) / 8) x3.pkn) /\ bkOK (RS.W x) x6.2 (x3.num + 8 * x6.1)) -> Br (decide ((x6.1 : Int) < (↑((min (((64 : Nat) - x3.num) / 8) x3.pkn) - 0) : Int))) (∃ x7 : Nat × Nat, sliceVal x3.pk 0 ((min (((64 : Nat) - x3.num) / 8) x3.pkn)) 1 = Value.slice (some (Addr.mk x.bb ((3 : Nat) + x7.1 * 1) none)) ((min (((64 : Nat) - x3.num) / 8) x3.pkn) - 0) x7.2 /\ inRange (x6.1 : Int) ((min (((64 : Nat) - x3.num) / 8) x3.pkn) - 0) /\ Rf x.bb /\ x7.1 + x6.1 < x3.arr.length /\ ∀ x8 : Int, ((x3.arr[x7.1 + x6.1]? = some x8) -> Rf x.rb /\ Br x.big (∀ x9 : Fz, x8.toNat < 256 /\ x8 = (x8.toNat : Int) /\ x9 = x9 /\ Rl x.rel /\ ∀ x10 : Unit, (True -> x9 = x9 /\ Rf x.rb /\ Rf x.rb /\ (0 : Int) <= (↑(x3.num + 8 * x6.1) : Int) /\ Rf x.rb /\ Rf x.rb /\ Rf x.rb /\ inI64 ((x6.1 : Int) + (1 : Int)) /\ ∃ x11 : Nat × Nat, ((x11.1 <= (min (((64 : Nat) - x3.num) / 8) x3.pkn) /\ bkOK (RS.W x) x11.2 (x3.num + 8 * x11.1)) /\ (min (((64 : Nat) - x3.num) / 8) x3.pkn) - x11.1 < (min (((64 : Nat) - x3.num) / 8) x3.pkn) - x6.1) /\ (x6.1 : Int) + (1 : Int) = (x11.1 : Int) /\ x.m = x.m /\ Rl x.rel /\ Rf x.rb /\ Rf (x3.off : Int) /\ (Rf x.sb /\ Ro) /\ Rf Value.nilIface /\ (Rf x.bb /\ Ro) /\ (bitI BinOp.or IntKind.u64 (x6.2 : Int) (shlI IntKind.u64 (IntKind.wrap IntKind.u64 (↑(numL (byteBits true x8.toNat)) : Int)) (↑(x3.num + 8 * x6.1) : Int)) = (x11.2 : Int)) /\ IntKind.wrap IntKind.u64 ((↑(x3.num + 8 * x6.1) : Int) + (8 : Int)) = (↑(x3.num + 8 * x11.1) : Int) /\ Rf x.big /\ (Rf x3.pk /\ Rf x3.pkn) /\ Rf x3.dis /\ Rf (x3.fed : Int) /\ Rf (Value.pointer none) /\ (Rf x.bb /\ Ro) /\ Rf (Value.pointer none) /\ Rf x.sb /\ (Rf x.vs /\ Rf (ints x.bs)) /\ Rf (x3.off : Int) /\ Rf x3.prev /\ Rf x.bb /\ (Rf x.sb /\ Ro) /\ Rf (x3.pos : Int) /\ (Rf x3.bv /\ Rf x3.bn) /\ (Rf 512 /\ Rf x3.arr) /\ True)) (Rf x.rb /\ Rf x.rb /\ (0 : Int) <= (↑(x3.num + 8 * x6.1) : Int) /\ Rf x.rb /\ Rf x.rb /\ Rf x.rb /\ inI64 ((x6.1 : Int) + (1 : Int)) /\ ∃ x9 : Nat × Nat, ((x9.1 <= (min (((64 : Nat) - x3.num) / 8) x3.pkn) /\ bkOK (RS.W x) x9.2 (x3.num + 8 * x9.1)) /\ (min (((64 : Nat) - x3.num) / 8) x3.pkn) - x9.1 < (min (((64 : Nat) - x3.num) / 8) x3.pkn) - x6.1) /\ (x6.1 : Int) + (1 : Int) = (x9.1 : Int) /\ x.m = x.m /\ Rl x.rel /\
 Rf x.rb /\ Rf (x3.off : Int) /\ (Rf x.sb /\ Ro) /\ Rf Value.nilIface /\ (Rf x.bb /\ Ro) /\ bitI BinOp.or IntKind.u64 (x6.2 : Int) (shlI IntKind.u64 (IntKind.wrap IntKind.u64 x8) (↑(x3.num + 8 * x6.1) : Int)) = (x9.2 : Int) /\ IntKind.wrap IntKind.u64 ((↑(x3.num + 8 * x6.1) : Int) + (8 : Int)) = (↑(x3.num + 8 * x9.1) : Int) /\ Rf x.big /\ (Rf x3.pk /\ Rf x3.pkn) /\ Rf x3.dis /\ Rf (x3.fed : Int) /\ Rf (Value.pointer none) /\ (Rf x.bb /\ Ro) /\ Rf (Value.pointer none) /\ Rf x.sb /\ (Rf x.vs /\ Rf (ints x.bs)) /\ Rf (x3.off : Int) /\ Rf x3.prev /\ Rf x.bb /\ (Rf x.sb /\ Ro) /\ Rf (x3.pos : Int) /\ (Rf x3.bv /\ Rf x3.bn) /\ (Rf 512 /\ Rf x3.arr) /\ True))) (Rf x.rb /\ ((0 : Int) <= (↑(min (((64 : Nat) - x3.num) / 8) x3.pkn) : Int) /\ (↑(min (((64 : Nat) - x3.num) / 8) x3.pkn) : Int) <= (x3.pkn : Int) /\ (x3.pkn : Int) <= (↑(capVal x3.pk) : Int)) /\ Rf x.rb /\ Rf x.rb /\ Br (decide ((↑(x3.num + 8 * x6.1) : Int) > (56 : Int))) (∃ x7 : RV, (plOK x x7 /\ nb <= x7.num) /\ x.m = x.m /\ Rl x.rel /\ Rf x.rb /\ (x3.off : Int) = (x7.off : Int) /\ (Rf x.sb /\ Ro) /\ Rf Value.nilIface /\ (Rf x.bb /\ Ro) /\ (x6.2 : Int) = (x7.bits : Int) /\ (↑(x3.num + 8 * x6.1) : Int) = (x7.num : Int) /\ Rf x.big /\ (sliceVal x3.pk ((min (((64 : Nat) - x3.num) / 8) x3.pkn)) x3.pkn 1 = x7.pk /\ x3.pkn - (min (((64 : Nat) - x3.num) / 8) x3.pkn) = x7.pkn) /\ x3.dis = x7.dis /\ (x3.fed : Int) = (x7.fed : Int) /\ Rf (Value.pointer none) /\ (Rf x.bb /\ Ro) /\ Rf (Value.pointer none) /\ Rf x.sb /\ (Rf x.vs /\ Rf (ints x.bs)) /\ (x3.off : Int) = (x7.off : Int) /\ x3.prev = x7.prev /\ Rf x.bb /\ (Rf x.sb /\ Ro) /\ (x3.pos : Int) = (x7.pos : Int) /\ (x3.bv = x7.bv /\ x3.bn = x7.bn) /\ (Rf 512 /\ x3.arr = x7.arr) /\ True) (∃ x7 : RV, (plOK x x7 /\ 64 - x7.num < 64 - x2.num) /\ x.m = x.m /\ Rl x.rel /\ Rf x.rb /\ (x3.off : Int) = (x7.off : Int) /\ (Rf x.sb /\ Ro) /\ Rf Value.nilIface /\ (Rf x.bb /\ Ro) /\ (x6.2 : Int) = (x7.bits : Int) /\ (↑(x3.num + 8 * x6.1) : Int) = (x7.num : Int) /\ Rf x.big /\ (sliceVal x3.pk ((min (((64 : Nat) - x3.num) / 8) x3.pkn)) x3.pkn 1 = x7.pk /\ x3.pkn - (min (((64 : Nat) - x3.num) / 8) x3.pkn) = x7.pkn) /\ x3.dis = x7.dis /\ (x3.fed : Int) = (x7.fed : Int) /\ Rf (Value.pointer none) /\ (Rf x.bb /\ Ro) /\ Rf (Value.pointer none) /\ Rf x.sb /\ (Rf x.vs /\ Rf (ints x.bs)) /\ (x3.off : Int) = (x7.off : Int) /\ x3.prev = x7.prev /\ Rf x.bb /\ (Rf x.sb /\ Ro) /\ (x3.pos : Int) = (x7.pos : Int) /\ (x3.bv = x7.bv /\ x3.bn = x7.bn) /\ (Rf 512 /\ x3.arr = x7.arr) /\ True)))))))))) /\ (∀ x1 : RV, ((plOK x x1 /\ nb <= x1.num) -> Rf x.rb /\ Rf x.rb /\ ((∃ x2 : RV, pulled x nb x2 /\ Rf Value.nilIface /\ x.m = x.m /\ Rl x.rel /\ Rf x.rb /\ (x1.off : Int) = (x2.off : Int) /\ (Rf x.sb /\ Ro) /\ Rf Value.nilIface /\ (Rf x.bb /\ Ro) /\ (x1.bits : Int) = (x2.bits : Int) /\ (x1.num : Int) = (x2.num : Int) /\ Rf x.big /\ (x1.pk = x2.pk /\ x1.pkn = x2.pkn) /\ x1.dis = x2.dis /\ (x1.num : Int) = (x2.fed : Int) /\ Rf (Value.pointer none) /\ (Rf x.bb /\ Ro) /\ Rf (Value.pointer none) /\ Rf x.sb /\ (Rf x.vs /\ Rf (ints x.bs)) /\ (x1.off : Int) = (x2.off : Int) /\ x1.prev = x2.prev /\ Rf x.bb /\ (Rf x.sb /\ Ro) /\
 (x1.pos : Int) = (x2.pos : Int) /\ (x1.bv = x2.bv /\ x1.bn = x2.bn) /\ (Rf 512 /\ x1.arr = x2.arr) /\ True) \/ (∃ x2 : RV, dry x nb x2 /\ Value.nilIface = errV (Gl.U G) /\ x.m = x.m /\ Rl x.rel /\ Rf x.rb /\ (x1.off : Int) = (x2.off : Int) /\ (Rf x.sb /\ Ro) /\ Rf Value.nilIface /\ (Rf x.bb /\ Ro) /\ (x1.bits : Int) = (x2.bits : Int) /\ (x1.num : Int) = (x2.num : Int) /\ Rf x.big /\ (x1.pk = x2.pk /\ x1.pkn = x2.pkn) /\ x1.dis = x2.dis /\ (x1.num : Int) = (x2.fed : Int) /\ Rf (Value.pointer none) /\ (Rf x.bb /\ Ro) /\ Rf (Value.pointer none) /\ Rf x.sb /\ (Rf x.vs /\ Rf (ints x.bs)) /\ (x1.off : Int) = (x2.off : Int) /\ x1.prev = x2.prev /\ Rf x.bb /\ (Rf x.sb /\ Ro) /\ (x1.pos : Int) = (x2.pos : Int) /\ (x1.bv = x2.bv /\ x1.bn = x2.bn) /\ (Rf 512 /\ x1.arr = x2.arr) /\ True))))
noncomputable def law_c143 (G : Gl) (P : Nat) (x : RS) (nb : Nat) : VCT := fnx (CH G 4) (INH G 4 (b143 G) NA) (a143 x nb) Tryz.f143 ((c143 G P).args (x, nb)) ((c143 G P).H (x, nb)) (outK true 5 ((c143 G P).ret (x, nb))) ((c143 G P).pan (x, nb))
theorem eq_c143 (G : Gl) (P : Nat) (x : RS) (nb : Nat) : cond_c143 G P x nb = (law_c143 G P x nb).den := by kernel_rfl
theorem rb_of {x : RS} {v : RV} (h : rsL (x.put v)) (m : Fz) (prev : Int) : rbOK ⟨m, x.rel, x.bb, x.sb, v.pos, v.bv, v.bn, v.arr, x.vs, x.bs, v.off, prev⟩ where
 arr := h.arr
 pi := h.pos
 il := by have h1 : v.off <= (x.P + 7) / 8 := h.off; have h2 : x.P + v.num <= 8 * x.bs.length := h.end_; dsimp only; omega
 len := h.len
 view := h.bv
theorem vw_512 {b : Nat} {arr : List Int} {bs : List Nat} {v : Value} {n q : Nat} (h : vw b arr bs v n q) : n <= 512 := by
 rcases h with ⟨_, rfl⟩ | ⟨lo, cap, _, h1, h2, _⟩
 . exact Nat.zero_le _
 . omega
theorem ok_c143 (G : Gl) (P : Nat) (x : RS) (nb : Nat) (hx : rsOK x) (hn : nb <= 56) : cond_c143 G P x nb := by
 unfold cond_c143
 have e3 : ∀ l : List Nat, nats (ints l) = l := nats_ints
 have e0 := hx.l.bk.n
 have ef := hx.fed
 have ed := hx.dis
 have el := hx.l.len
 have ee := hx.l.end_
 have eo := hx.l.off
 have e1 : IntKind.u64.wrap ((x.fed : Int) - (x.num : Int)) = (x.fed : Int) - (x.num : Int) := by rw [wr64]; omega
 have ec := ceil8 ⟨nb, by omega⟩
 dsimp only at ec
 have ec1 : Int.tdiv ((8 * ((nb + 7) / 8) : Nat) : Int) 8 = (((nb + 7) / 8 : Nat) : Int) := by rw [Int.tdiv_eq_ediv_of_nonneg (by omega)]; omega
 have ec2 : IntKind.i64.wrap (((nb + 7) / 8 : Nat) : Int) = (((nb + 7) / 8 : Nat) : Int) := wrI (by omega) (by omega)
 simp only [e1, e3, ec, ec1, ec2, br_d, br_i, rel_self, true_and, and_true, inRange, inI64, Int.toNat_natCast]
 refine ⟨by omega, by omega, ⟨⟨x.off, x.bits, x.num, x.pk, x.pkn, x.dis + ((x.fed : Int) - x.num), x.fed, x.pos, x.bv, x.bn, x.arr, x.prev⟩, pl_enter hx, rfl, rfl, rfl, ⟨rfl, rfl⟩, rfl, rfl, rfl, rfl, rfl, ⟨rfl, rfl⟩, rfl, fun v hv => ⟨⟨fun hp0 => ⟨x.P, fun m => ⟨?_, fun _ _ => ⟨by omega, by decide, fun m => ⟨?_, fun y hy => ⟨fun h1 m => ⟨?_, fun z hz => ?_⟩, fun h1 => ?_⟩⟩, fun f hf m => ⟨⟨?_, hf.2.2.2.2⟩, fun y hy => ?_, fun y hy => ?_⟩⟩⟩⟩, fun hp0 => ?_⟩, fun w hw => ?_⟩⟩, fun v hv => .inl ⟨_, pulled_mk hv.1 hv.2, rfl, rfl, rfl, ⟨rfl, rfl⟩, rfl, rfl, rfl, rfl, rfl, ⟨rfl, rfl⟩, rfl⟩⟩
 . refine ⟨hv.l.bytes, hv.l.len, hv.l.bk.n, hv.l.al, hv.l.end_, hv.l.off, hv.l.pos, hv.l.arr, hv.l.pk, hv.l.bv, hv.l.cov, ?_, Nat.le_refl _, hv.l.bk.n⟩
   have := hv.dis
   dsimp only; omega
 . have h1 : v.off <= (x.P + 7) / 8 := hv.l.off
   have h2 : v.pos <= v.off := hv.l.pos
   have h3 : x.P + v.num <= 8 * x.bs.length := hv.l.end_
   exact ⟨hv.l.arr, by dsimp only; omega, by dsimp only; omega, hv.l.len, hv.l.bv⟩
 . have h3 : x.P + v.num <= 8 * x.bs.length := hv.l.end_
   exact ⟨hv.l.arr, Nat.le_refl _, by dsimp only; omega, hv.l.len, hy.2⟩
 . have h9 := vw_end hz.2
   have h10 := vw_512 hz.2
   exact ⟨⟨_, z.2⟩, ⟨fl_mk hv (by omega) (by have := hy.1; omega) hz.2 rfl rfl, rfl, by dsimp only; omega, Nat.le_refl _, by dsimp only; omega⟩, rfl, rfl, rfl, rfl, ⟨rfl, rfl⟩, rfl, rfl, rfl, rfl, rfl, ⟨rfl, rfl⟩, rfl⟩
 . exact ⟨⟨_, (nb + 7) / 8⟩, ⟨fl_mk hv (by omega) (by have := hy.1; omega) hy.2 rfl rfl, rfl, Nat.le_refl _, by dsimp only; omega, by dsimp only; omega⟩, rfl, rfl, rfl, rfl, ⟨rfl, rfl⟩, rfl, rfl, rfl, rfl, rfl, ⟨rfl, rfl⟩, rfl⟩
 . exact rb_of hf.1.l m _
 . obtain ⟨h1, h2, h3⟩ := fl_skip hf.1
   have h64 : f.1.num <= 64 := hf.1.l.bk.n
   have t1 : Int.tdiv (f.1.num : Int) 8 = ((f.1.num / 8 : Nat) : Int) := by rw [Int.tdiv_eq_ediv_of_nonneg (by omega)]; omega
   have t2 : IntKind.u64.wrap ((f.1.num / 8 : Nat) : Int) = ((f.1.num / 8 : Nat) : Int) := by rw [wr64]; omega
   simp only [t1, t2, Int.toNat_natCast]
   have hc := vw_cap hy.2.peek
   have key := pl_peek hf.1 (pn := f.2) (by omega) hy.2.arr hy.2.peek hy.2.view hy.2.more
   refine ⟨by decide, by omega, by omega, fun h4 => ⟨fun h5 => ⟨_, ⟨key, by dsimp only; omega⟩, rfl, rfl, rfl, ⟨rfl, rfl⟩, rfl, rfl, rfl, rfl, rfl, ⟨rfl, rfl⟩, rfl⟩, fun h5 => by omega⟩, fun h4 => ⟨_, ⟨key, by dsimp only; omega, hf.2.1⟩, rfl, rfl, rfl, ⟨rfl, rfl⟩, rfl, rfl, rfl, rfl, rfl, ⟨rfl, rfl⟩, rfl⟩⟩
 . obtain ⟨h1, h2, h3⟩ := fl_skip hf.1
   have h64 : f.1.num <= 64 := hf.1.l.bk.n
   have t1 : Int.tdiv (f.1.num : Int) 8 = ((f.1.num / 8 : Nat) : Int) := by rw [Int.tdiv_eq_ediv_of_nonneg (by omega)]; omega
   have t2 : IntKind.u64.wrap ((f.1.num / 8 : Nat) : Int) = ((f.1.num / 8 : Nat) : Int) := by rw [wr64]; omega
   simp only [t1, t2, Int.toNat_natCast]
   have hc := vw_cap hy.2.peek
   have key := pl_peek hf.1 (pn := x.bs.length - f.1.off) (by omega) hy.2.arr hy.2.peek hy.2.view hy.2.more
   have al : (x.P + f.1.num) % 8 = 0 := hf.1.l.al
   refine ⟨by decide, by omega, by omega, fun h4 => ⟨fun h5 => ⟨_, ⟨key, by dsimp only; omega⟩, rfl, rfl, rfl, ⟨rfl, rfl⟩, rfl, rfl, rfl, rfl, rfl, ⟨rfl, rfl⟩, rfl⟩, fun h5 => .inr ⟨_, dry_mk key hf.1.fed (by dsimp only; omega) (by dsimp only; omega), rfl, rfl, rfl, ⟨rfl, rfl⟩, rfl, rfl, rfl, rfl, rfl, ⟨rfl, rfl⟩, rfl⟩⟩, fun h4 => ⟨_, ⟨key, by dsimp only; omega, hf.2.1⟩, rfl, rfl, rfl, ⟨rfl, rfl⟩, rfl, rfl, rfl, rfl, rfl, ⟨rfl, rfl⟩, rfl⟩⟩
 . exact ⟨v, ⟨hv, by omega, rfl⟩, rfl, rfl, rfl, ⟨rfl, rfl⟩, rfl, rfl, rfl, rfl, rfl, ⟨rfl, rfl⟩, rfl⟩
 . obtain ⟨hw, hpos, hnum⟩ := hw
   have h64 : w.num <= 64 := hw.l.bk.n
   have hbk : bkOK x.W w.bits w.num := hw.l.bk
   have hvw : vw x.bb w.arr x.bs w.pk w.pkn ((x.P + w.num) / 8) := hw.l.pk
   have harr : w.arr.length = 512 := hw.l.arr
   have hend := vw_end hvw
   have hcap := vw_cap hvw
   have hlen := hw.l.len
   have hby : ∀ b ∈ x.bs, b < 256 := hw.l.bytes
   have hlen : x.bs.length <= 1000000 := hlen
   obtain ⟨lo, cap, hpk, hlo, hget⟩ := vw_get hvw hpos
   have hc256 : ∀ {j c : Nat}, x.bs[j]? = some c -> c < 256 := fun h => hby _ (List.mem_of_getElem? h)
   have u1 : IntKind.u64.wrap (64 - (w.num : Int)) = ((64 - w.num : Nat) : Int) := by rw [wr64]; omega
   have u2 : Int.tdiv ((64 - w.num : Nat) : Int) 8 = (((64 - w.num) / 8 : Nat) : Int) := by rw [Int.tdiv_eq_ediv_of_nonneg (by omega)]; omega
   have u3 : IntKind.i64.wrap (((64 - w.num) / 8 : Nat) : Int) = (((64 - w.num) / 8 : Nat) : Int) := wrI (by omega) (by omega)
   have hW := W_at hw
   simp only [u1, u2, u3, Int.toNat_natCast, Nat.sub_zero]
   refine ⟨by omega, by decide, fun h8 => ⟨fun _ => ⟨(lo, cap), hpk, by omega, by dsimp only; omega, fun z h => ⟨(lo, cap), hpk, by omega, by dsimp only; omega, fun z0 h0 => ⟨(lo, cap), hpk, by omega, by dsimp only; omega, fun z1 h1 => ⟨by decide, (lo, cap), hpk, by omega, by dsimp only; omega, fun z2 h2 => ⟨by decide, (lo, cap), hpk, by omega, by dsimp only; omega, fun z3 h3 => ⟨by decide, (lo, cap), hpk, by omega, by dsimp only; omega, fun z4 h4 => ⟨by decide, (lo, cap), hpk, by omega, by dsimp only; omega, fun z5 h5 => ⟨by decide, (lo, cap), hpk, by omega, by dsimp only; omega, fun z6 h6 => ⟨by decide, (lo, cap), hpk, by omega, by dsimp only; omega, fun z7 h7 => ⟨by decide, (), ?_⟩⟩⟩⟩⟩⟩⟩⟩⟩⟩, fun _ _ => ⟨?_, fun _ _ => ⟨by omega, by omega, by omega, ⟨_, ⟨pl_more hw (n := (64 - w.num) / 8) (by omega) hpos (bk_more (V := wd8 x.big x.bs ((x.P + w.num) / 8)) (m := 64) (m' := 8 * ((64 - w.num) / 8)) hbk ?_ (by omega) (by omega)) rfl, by dsimp only; omega⟩, rfl, ?_, ?_, ⟨rfl, rfl⟩, rfl, rfl, rfl, rfl, rfl, ⟨rfl, rfl⟩, rfl⟩⟩⟩⟩, fun h8 => ⟨⟨fun h1 => ⟨(), ?_⟩, fun h1 => ⟨(), ?_⟩⟩, fun _ _ => ⟨by omega, ⟨(0, w.bits), ⟨Nat.zero_le _, hbk⟩, rfl, rfl, rfl, fun y hy => ⟨fun h1 => ?_, fun h1 => ⟨by omega, fun h2 => ?_, fun h2 => ?_⟩⟩⟩⟩⟩⟩
   . obtain ⟨c0, k0, rfl⟩ := hget 0 z0 (by omega) h0
     obtain ⟨c1, k1, rfl⟩ := hget 1 z1 (by omega) h1
     obtain ⟨c2, k2, rfl⟩ := hget 2 z2 (by omega) h2
     obtain ⟨c3, k3, rfl⟩ := hget 3 z3 (by omega) h3
     obtain ⟨c4, k4, rfl⟩ := hget 4 z4 (by omega) h4
     obtain ⟨c5, k5, rfl⟩ := hget 5 z5 (by omega) h5
     obtain ⟨c6, k6, rfl⟩ := hget 6 z6 (by omega) h6
     obtain ⟨c7, k7, rfl⟩ := hget 7 z7 (by omega) h7
     rw [word8 (hc256 k0) (hc256 k1) (hc256 k2) (hc256 k3) (hc256 k4) (hc256 k5) (hc256 k6) (hc256 k7)]
     unfold wd8
     rw [eight k0 k1 k2 k3 k4 k5 k6 k7]
   . have hl8 : ((x.bs.drop ((x.P + w.num) / 8)).take 8).length = 8 := by rw [List.length_take, List.length_drop]; omega
     have hwl : ∀ big, wd8 big x.bs ((x.P + w.num) / 8) < 2 ^ 64 := fun big => by
       have := stream_lt big ((x.bs.drop ((x.P + w.num) / 8)).take 8)
       rwa [hl8] at this
     refine br_mk (fun hb => ⟨by decide, by decide, by decide, by decide, by decide, by decide, (), ?_⟩) (fun hb => ⟨(), by rw [hb]⟩)
     have s1 := stage_run (hi := 12297829382473034410) (lo := 6148914691236517205) (s := 1) (hwl false) (by decide) (by decide) (by decide)
     have s2 := stage_run (u := stage (wd8 false x.bs ((x.P + w.num) / 8)) 12297829382473034410 6148914691236517205 1) (hi := 14757395258967641292) (lo := 3689348814741910323) (s := 2) (stage_lt (hwl false)) (by decide) (by decide) (by decide)
     have s3 := stage_run (u := stage (stage (wd8 false x.bs ((x.P + w.num) / 8)) 12297829382473034410 6148914691236517205 1) 14757395258967641292 3689348814741910323 2) (hi := 17361641481138401520) (lo := 1085102592571150095) (s := 4) (stage_lt (stage_lt (hwl false))) (by decide) (by decide) (by decide)
     rw [<- s1] at s2
     rw [<- s2] at s3
     refine s3.trans ?_
     rw [hb]
     exact congrArg _ (swap8 hl8)
   . rw [hW]
     exact wd8_mod x.big x.bs (by omega)
   . have hl8 : ((x.bs.drop ((x.P + w.num) / 8)).take 8).length = 8 := by rw [List.length_take, List.length_drop]; omega
     rw [shlN rfl, show min w.num IntKind.u64.bits = w.num by simp only [IntKind.bits]; omega]
     exact orN rfl hbk.lt (Nat.mod_lt _ (by decide))
   . rw [wr64, wr64]; dsimp only; omega
   . omega
   . omega
   . have hsl : sliceVal w.pk 0 (min ((64 - w.num) / 8) w.pkn) 1 = .slice (some ⟨x.bb, 3 + lo * 1, none⟩) (min ((64 - w.num) / 8) w.pkn) cap := by
       rw [hpk]; simp [sliceVal, Addr.add]
     refine ⟨(lo, cap), hsl, by omega, by dsimp only; omega, fun z hz => ?_⟩
     obtain ⟨c, hc, rfl⟩ := hget y.1 z (by omega) hz
     have h256 := hc256 hc
     have hyl := hy.2.n
     have al : (x.P + w.num) % 8 = 0 := hw.l.al
     have hV : numL (byteBits x.big c) = x.W / 2 ^ (w.num + 8 * y.1) % 2 ^ 8 := by
       rw [byte_mod x.big hc]
       unfold RS.W
       rw [Nat.div_div_eq_div_mul, <- Nat.pow_add]
       congr 3; omega
     have hbk2 := bk_more hy.2 hV (Nat.le_refl 8) (by omega)
     have hnum2 : w.num + 8 * y.1 + 8 = w.num + 8 * (y.1 + 1) := by omega
     rw [hnum2] at hbk2
     have hlt := numL_lt (byteBits_lt x.big c)
     rw [byteBits_len] at hlt
     have hrun : bitI BinOp.or IntKind.u64 (y.2 : Int) (shlI IntKind.u64 (IntKind.u64.wrap ((numL (byteBits x.big c) : Nat) : Int)) ((w.num + 8 * y.1 : Nat) : Int)) = ((y.2 ||| numL (byteBits x.big c) * 2 ^ (w.num + 8 * y.1) % 2 ^ 64 : Nat) : Int) := by
       rw [wrId rfl (by simp only [IntKind.bits]; omega), shlN rfl, show min (w.num + 8 * y.1) IntKind.u64.bits = w.num + 8 * y.1 by simp only [IntKind.bits]; omega]
       exact orN rfl hy.2.lt (Nat.mod_lt _ (by decide))
     have hadd : IntKind.u64.wrap (((w.num + 8 * y.1 : Nat) : Int) + 8) = ((w.num + 8 * (y.1 + 1) : Nat) : Int) := by rw [wr64]; omega
     simp only [Int.toNat_natCast]
     refine br_mk (fun hb => fun _ => ⟨h256, trivial, fun _ _ => ⟨by omega, by omega, (y.1 + 1, _), ⟨⟨by dsimp only; omega, hbk2⟩, by dsimp only; omega⟩, rfl, ?_, hadd⟩⟩) (fun hb => ⟨by omega, by omega, (y.1 + 1, _), ⟨⟨by dsimp only; omega, hbk2⟩, by dsimp only; omega⟩, rfl, ?_, hadd⟩)
     . rw [hb] at hrun ⊢; exact hrun
     . have hbn := byte_num ⟨c, h256⟩
       dsimp only at hbn
       rw [hb, hbn] at hrun ⊢; exact hrun
   . exact ⟨_, ⟨pl_more hw (n := min ((64 - w.num) / 8) w.pkn) (by omega) hpos hy.2 (by omega), by dsimp only; omega⟩, rfl, rfl, rfl, ⟨rfl, rfl⟩, rfl, rfl, rfl, rfl, rfl, ⟨rfl, rfl⟩, rfl⟩
   . exact ⟨_, ⟨pl_more hw (n := min ((64 - w.num) / 8) w.pkn) (by omega) hpos hy.2 (by omega), by dsimp only; omega⟩, rfl, rfl, rfl, ⟨rfl, rfl⟩, rfl, rfl, rfl, rfl, rfl, ⟨rfl, rfl⟩, rfl⟩
theorem b143_ok (G : Gl) : ∀ f pt, b143 G f = some pt -> SpecOK (CC G) f pt := by
 intro f pt h
 unfold b143 at h
 split at h
 . cases h; exact exPT_ok 0 fun P => loc_ok (s80 G P) _
 . cases h; exact loc_ok (s164 G) _
 . cases h; exact loc_ok (s212 G) _
 . cases h; exact loc_ok (s213 G) _
 . cases h; exact loc_ok (s214 G) _
 . cases h
theorem s143 (G : Gl) (P : Nat) : SpecOK (CC G) 143 (c143 G P).pt := specH G 4 (b143_ok G) (fn := Tryz.f143) rfl NA (c143 G P) (fun x => a143 x.1 x.2) fun ⟨x, nb⟩ h => Met.of (eq_c143 G P x nb) (ok_c143 G P x nb h.1 h.2)
end Pc
/-
 The reader's small methods do what their contracts say.
-/
set_option linter.unusedVariables false
set_option maxRecDepth 100000
open Go Go.Vg Go.Proofs
namespace Pc
def cond_c103 (G : Gl) (P : Nat) (x : RS) (nb : Nat) : Prop :=
 ∃ x1 : Nat, ∀ x2 : Fz, (rsOK (RS.mk x2 x.rel x.rb x.sb x.bb x.vs (nats (ints x.bs)) x.big x1 x.off x.bits x.num x.pk x.pkn x.dis x.fed x.pos x.bv x.bn x.arr x.prev) /\ Int.toNat (↑nb : Int) <= 56) /\ (Rf x.rb /\ Ro) /\ ((↑nb : Int) = (↑(Int.toNat (↑nb : Int)) : Int)) /\ x2 = x2 /\ Rl x.rel /\ Rf x.rb /\ Rf (x.off : Int) /\ (Rf x.sb /\ Ro) /\ Rf Value.nilIface /\ (Rf x.bb /\ Ro) /\ Rf (x.bits : Int) /\ Rf (x.num : Int) /\ Rf x.big /\ (Rf x.pk /\ Rf x.pkn) /\ Rf x.dis /\ Rf (x.fed : Int) /\ Rf (Value.pointer none) /\ (Rf x.bb /\ Ro) /\ Rf (Value.pointer none) /\ Rf x.sb /\ (Rf x.vs /\ ints x.bs = ints (nats (ints x.bs))) /\ Rf (x.off : Int) /\ Rf x.prev /\ Rf x.bb /\ (Rf x.sb /\ Ro) /\ Rf (x.pos : Int) /\ (Rf x.bv /\ Rf x.bn) /\ (Rf 512 /\ Rf x.arr) /\ (∀ x3 : RV, (pulled (RS.mk x2 x.rel x.rb x.sb x.bb x.vs (nats (ints x.bs)) x.big x1 x.off x.bits x.num x.pk x.pkn x.dis x.fed x.pos x.bv x.bn x.arr x.prev) (Int.toNat (↑nb : Int)) x3) -> x2 = x2 /\ Rf x.rb /\ (0 : Int) <= (↑nb : Int) /\ Rf x.rb /\ (0 : Int) <= (↑nb : Int) /\ Rf x.rb /\ Rf x.rb /\ Rf x.rb /\ ∃ x4 : RV, took x nb x4 /\ (bitI BinOp.and IntKind.u64 (x3.bits : Int) (IntKind.wrap IntKind.u64 (shlI IntKind.u64 (1 : Int) (↑nb : Int) - (1 : Int))) = (↑(RS.W x % (2 : Nat) ^ nb) : Int)) /\ x.m = x.m /\ Rl x.rel /\ Rf x.rb /\ (x3.off : Int) = (x4.off : Int) /\ (Rf x.sb /\ Ro) /\ Rf Value.nilIface /\ (Rf x.bb /\ Ro) /\ shrI IntKind.u64 (x3.bits : Int) (↑nb : Int) = (x4.bits : Int) /\ IntKind.wrap IntKind.u64 ((x3.num : Int) - (↑nb : Int)) = (x4.num : Int) /\ Rf x.big /\ (x3.pk = x4.pk /\ x3.pkn = x4.pkn) /\ x3.dis = x4.dis /\ (x3.fed : Int) = (x4.fed : Int) /\ Rf (Value.pointer none) /\ (Rf x.bb /\ Ro) /\ Rf (Value.pointer none) /\ Rf x.sb /\ (Rf x.vs /\ ints (nats (ints x.bs)) = ints x.bs) /\ (x3.off : Int) = (x4.off : Int) /\ x3.prev = x4.prev /\ Rf x.bb /\ (Rf x.sb /\ Ro) /\ (x3.pos : Int) = (x4.pos : Int) /\ (x3.bv = x4.bv /\ x3.bn = x4.bn) /\ (Rf 512 /\ x3.arr = x4.arr) /\ True) /\ (∀ x3 : RV, (dry (RS.mk x2 x.rel x.rb x.sb x.bb x.vs (nats (ints x.bs)) x.big x1 x.off x.bits x.num x.pk x.pkn x.dis x.fed x.pos x.bv x.bn x.arr x.prev) (Int.toNat (↑nb : Int)) x3) -> x2 = x2 /\ ∀ x4 : Nat, ∃ x5 : RV × Nat, lacks x nb x5.1 /\ (x4 = x5.2 /\ Ro) /\ x.m = x.m /\ Rl x.rel /\ Rf x.rb /\ (x3.off : Int) = (x5.1.off : Int) /\ (Rf x.sb /\ Ro) /\ Rf Value.nilIface /\ (Rf x.bb /\ Ro) /\ (x3.bits : Int) = (x5.1.bits : Int) /\ (x3.num : Int) = (x5.1.num : Int) /\ Rf x.big /\ (x3.pk = x5.1.pk /\ x3.pkn = x5.1.pkn) /\ x3.dis = x5.1.dis /\ (x3.fed : Int) = (x5.1.fed : Int) /\ Rf (Value.pointer none) /\ (Rf x.bb /\ Ro) /\ Rf (Value.pointer none) /\ Rf x.sb /\ (Rf x.vs /\ ints (nats (ints x.bs)) = ints x.bs) /\ (x3.off : Int) = (x5.1.off : Int) /\ x3.prev = x5.1.prev /\ Rf x.bb /\ (Rf x.sb /\ Ro) /\ (x3.pos : Int) = (x5.1.pos : Int) /\ (x3.bv = x5.1.bv /\ x3.bn = x5.1.bn) /\ (Rf 512 /\ x3.arr = x5.1.arr) /\ x4 = x5.2 /\ Rf (errV (Gl.U G)) /\ True)
noncomputable def law_c103 (G : Gl) (P : Nat) (x : RS) (nb : Nat) : VCT := fnx (CH G 4) (INH G 4 (b103 G) NA) noAnn Tryz.f103 ((c103 G P).args (x, nb)) ((c103 G P).H (x, nb)) (outK true 5 ((c103 G P).ret (x, nb))) ((c103 G P).pan (x, nb))
theorem eq_c103 (G : Gl) (P : Nat) (x : RS) (nb : Nat) : cond_c103 G P x nb = (law_c103 G P x nb).den := by kernel_rfl
def cond_c107 (G : Gl) (P : Nat) (x : RS) : Prop :=
 Rf x.rb /\ (8 : Int) ≠ (0 : Int) /\ Rf x.rb /\ (0 : Int) <= Int.tmod (x.num : Int) (8 : Int) /\ Rf x.rb /\ (0 : Int) <= Int.tmod (x.num : Int) (8 : Int) /\ Rf x.rb /\ Rf x.rb /\ Rf x.rb /\ ∃ x1 : RV, took x (((8 : Nat) * x.bs.length - x.P) % 8) x1 /\ (bitI BinOp.and IntKind.u64 (x.bits : Int) (IntKind.wrap IntKind.u64 (shlI IntKind.u64 (1 : Int) (Int.tmod (x.num : Int) (8 : Int)) - (1 : Int))) = (↑(RS.W x % (2 : Nat) ^ (((8 : Nat) * x.bs.length - x.P) % 8)) : Int)) /\ x.m = x.m /\ Rl x.rel /\ Rf x.rb /\ (x.off : Int) = (x1.off : Int) /\ (Rf x.sb /\ Ro) /\ Rf Value.nilIface /\ (Rf x.bb /\ Ro) /\ shrI IntKind.u64 (x.bits : Int) (Int.tmod (x.num : Int) (8 : Int)) = (x1.bits : Int) /\ IntKind.wrap IntKind.u64 ((x.num : Int) - Int.tmod (x.num : Int) (8 : Int)) = (x1.num : Int) /\ Rf x.big /\ (x.pk = x1.pk /\ x.pkn = x1.pkn) /\ x.dis = x1.dis /\ (x.fed : Int) = (x1.fed : Int) /\ Rf (Value.pointer none) /\ (Rf x.bb /\ Ro) /\ Rf (Value.pointer none) /\ Rf x.sb /\ (Rf x.vs /\ Rf (ints x.bs)) /\ (x.off : Int) = (x1.off : Int) /\ x.prev = x1.prev /\ Rf x.bb /\ (Rf x.sb /\ Ro) /\ (x.pos : Int) = (x1.pos : Int) /\ (x.bv = x1.bv /\ x.bn = x1.bn) /\ (Rf 512 /\ x.arr = x1.arr) /\ True
noncomputable def law_c107 (G : Gl) (P : Nat) (x : RS) : VCT := fnx (CH G 4) (INH G 4 no NA) noAnn Tryz.f107 ((c107 P).args x) ((c107 P).H x) (outK true 5 ((c107 P).ret x)) ((c107 P).pan x)
theorem eq_c107 (G : Gl) (P : Nat) (x : RS) : cond_c107 G P x = (law_c107 G P x).den := by kernel_rfl
def cond_c109 (G : Gl) (P : Nat) (x : RS) : Prop :=
 Rf x.rb /\ inI64 ((8 : Int) * (x.off : Int)) /\ Rf x.rb /\ inI64 (x.num : Int) /\ inI64 ((8 : Int) * (x.off : Int) - (x.num : Int)) /\ Rf x.rb /\ Rf x.rb /\ Rf x.rb /\ Rf x.rb /\ inI64 (IntKind.wrap IntKind.u64 ((x.fed : Int) - (x.num : Int))) /\ inI64 (x.dis + IntKind.wrap IntKind.u64 ((x.fed : Int) - (x.num : Int))) /\ Rf x.rb /\ inI64 ((8 : Int) * (x.off : Int)) /\ inI64 ((8 : Int) * (x.off : Int) + (x.dis + IntKind.wrap IntKind.u64 ((x.fed : Int) - (x.num : Int)))) /\ ∃ x1 : Unit, True /\ (8 : Int) * (x.off : Int) + (x.dis + IntKind.wrap IntKind.u64 ((x.fed : Int) - (x.num : Int))) = (x.P : Int) /\ x.m = x.m /\ Rl x.rel /\ Rf x.rb /\ Rf (x.off : Int) /\ (Rf x.sb /\ Ro) /\ Rf Value.nilIface /\ (Rf x.bb /\ Ro) /\ Rf (x.bits : Int) /\ Rf (x.num : Int) /\ Rf x.big /\ (Rf x.pk /\ Rf x.pkn) /\ Rf x.dis /\ Rf (x.fed : Int) /\ Rf (Value.pointer none) /\ (Rf x.bb /\ Ro) /\ Rf (Value.pointer none) /\ Rf x.sb /\ (Rf x.vs /\ Rf (ints x.bs)) /\ Rf (x.off : Int) /\ Rf x.prev /\ Rf x.bb /\ (Rf x.sb /\ Ro) /\ Rf (x.pos : Int) /\ (Rf x.bv /\ Rf x.bn) /\ (Rf 512 /\ Rf x.arr) /\ True
noncomputable def law_c109 (G : Gl) (P : Nat) (x : RS) : VCT := fnx (CH G 4) (INH G 4 no NA) noAnn Tryz.f109 ((c109 P).args x) ((c109 P).H x) (outK true 5 ((c109 P).ret x)) ((c109 P).pan x)
theorem eq_c109 (G : Gl) (P : Nat) (x : RS) : cond_c109 G P x = (law_c109 G P x).den := by kernel_rfl
theorem ok_c103 (G : Gl) (P : Nat) (x : RS) (nb : Nat) (hx : rsOK x) (hn : nb <= 56) : cond_c103 G P x nb := by
 unfold cond_c103
 have e3 : ∀ l : List Nat, nats (ints l) = l := nats_ints
 simp only [e3, rel_self, true_and, and_true, Int.toNat_natCast]
 refine ⟨x.P, fun m => ⟨⟨rs_m hx rfl, hn⟩, fun v hv => ⟨by omega, by omega, { v with bits := v.bits / 2 ^ nb, num := v.num - nb }, ?_, ?_, rfl, ?_, ?_, ⟨rfl, rfl⟩, rfl, rfl, rfl, rfl, rfl, ⟨rfl, rfl⟩, rfl⟩, fun v hv b => ⟨(v, b), ⟨rs_m hv.ok rfl, ?_⟩, rfl, rfl, rfl, rfl, ⟨rfl, rfl⟩, rfl, rfl, rfl, rfl, rfl, ⟨rfl, rfl⟩, rfl, rfl⟩⟩⟩
 . exact rs_take (x := x) (v := v) (rs_m hv.ok rfl) hv.num
 . have hbk : bkOK x.W v.bits v.num := hv.ok.l.bk
   rw [mask hbk.lt hn, bk_val hbk hv.num]
 . rw [shrN, show min nb IntKind.u64.bits = nb by simp only [IntKind.bits]; omega]
 . have h1 : v.num <= 64 := hv.ok.l.bk.n
   have h2 := hv.num
   rw [wr64]; dsimp only; omega
 . have h1 : x.P + v.num = 8 * x.bs.length := hv.all
   have h2 := hv.num
   omega
theorem ok_c107 (G : Gl) (P : Nat) (x : RS) (hx : rsOK x) : cond_c107 G P x := by
 unfold cond_c107
 have h64 : x.num <= 64 := hx.l.bk.n
 have al := hx.l.al
 have en := hx.l.end_
 have em : (8 * x.bs.length - x.P) % 8 = x.num % 8 := by omega
 have t1 : Int.tmod (x.num : Int) 8 = ((x.num % 8 : Nat) : Int) := by rw [Int.tmod_eq_emod_of_nonneg (by omega)]; omega
 simp only [t1, rel_self, true_and, and_true, em]
 have key := rs_take (x := x) (v := ⟨x.off, x.bits, x.num, x.pk, x.pkn, x.dis, x.fed, x.pos, x.bv, x.bn, x.arr, x.prev⟩) (n := x.num % 8) (rs_m hx rfl) (by dsimp only; omega)
 refine ⟨by decide, by omega, by omega, _, key, ?_, rfl, ?_, ?_, ⟨rfl, rfl⟩, rfl, rfl, rfl, rfl, rfl, ⟨rfl, rfl⟩, rfl⟩
 . have hbk := hx.l.bk
   rw [mask hbk.lt (by omega), bk_val hbk (by omega)]
 . rw [shrN, show min (x.num % 8) IntKind.u64.bits = x.num % 8 by simp only [IntKind.bits]; omega]
 . rw [wr64]; dsimp only; omega
theorem ok_c109 (G : Gl) (P : Nat) (x : RS) (hx : rsW x) : cond_c109 G P x := by
 unfold cond_c109
 have h64 : x.num <= 64 := hx.n
 have hf := hx.fed
 have hd := hx.dis
 have hl := hx.len
 have en := hx.end_
 have ho := hx.off
 have e1 : IntKind.u64.wrap ((x.fed : Int) - (x.num : Int)) = (x.fed : Int) - (x.num : Int) := by rw [wr64]; omega
 simp only [e1, rel_self, true_and, and_true, inI64]
 exact ⟨by omega, by omega, by omega, by omega, by omega, by omega, by omega, (), by omega⟩
theorem b103_ok (G : Gl) : ∀ f pt, b103 G f = some pt -> SpecOK (CC G) f pt := by
 intro f pt h
 unfold b103 at h
 split at h
 . cases h; exact exPT_ok 0 fun P => loc_ok (s143 G P) _
 . cases h
theorem s103 (G : Gl) (P : Nat) : SpecOK (CC G) 103 (c103 G P).pt := specH G 4 (b103_ok G) (fn := Tryz.f103) rfl NA (c103 G P) (fun _ => noAnn) fun ⟨x, nb⟩ h => Met.of (eq_c103 G P x nb) (ok_c103 G P x nb h.1 h.2)
theorem s107 (G : Gl) (P : Nat) : SpecOK (CC G) 107 (c107 P).pt := specH G 4 (no_ok G) (fn := Tryz.f107) rfl NA (c107 P) (fun _ => noAnn) fun x h => Met.of (eq_c107 G P x) (ok_c107 G P x h)
theorem s109 (G : Gl) (P : Nat) : SpecOK (CC G) 109 (c109 P).pt := specH G 4 (no_ok G) (fn := Tryz.f109) rfl NA (c109 P) (fun _ => noAnn) fun x h => Met.of (eq_c109 G P x) (ok_c109 G P x h)
end Pc
/-
 ReadSymbol does what its contract says.
-/
set_option linter.unusedVariables false
set_option maxRecDepth 100000
open Go Go.Vg Go.Proofs
namespace Pc
def cond_c105 (G : Gl) (P : Nat) (lens : List Nat) (x : RS) (d : DC) : Prop :=
 (Rf (DC.db d)) /\ Br ((↑(List.length (ints (DC.ch d))) : Int) == (0 : Int)) (∀ x1 : Nat, ∃ x2 : RV × Nat, lacks x (cl lens (RS.W x)) x2.1 /\ (x1 = x2.2 /\ Ro) /\ x.m = x.m /\ Rl x.rel /\ Rf x.rb /\ (x.off : Int) = (x2.1.off : Int) /\ (Rf x.sb /\ Ro) /\ Rf Value.nilIface /\ (Rf x.bb /\ Ro) /\ (x.bits : Int) = (x2.1.bits : Int) /\ (x.num : Int) = (x2.1.num : Int) /\ Rf x.big /\ (x.pk = x2.1.pk /\ x.pkn = x2.1.pkn) /\ x.dis = x2.1.dis /\ (x.fed : Int) = (x2.1.fed : Int) /\ Rf (Value.pointer none) /\ (Rf x.bb /\ Ro) /\ Rf (Value.pointer none) /\ Rf x.sb /\ (Rf x.vs /\ Rf (ints x.bs)) /\ (x.off : Int) = (x2.1.off : Int) /\ x.prev = x2.1.prev /\ Rf x.bb /\ (Rf x.sb /\ Ro) /\ (x.pos : Int) = (x2.1.pos : Int) /\ (x.bv = x2.1.bv /\ x.bn = x2.1.bn) /\ (Rf 512 /\ x.arr = x2.1.arr) /\ Rf (DC.db d) /\ (Rf (DC.cv d) /\ Rf (ints (DC.ch d))) /\ (Rf (DC.lv d) /\ Rf (DC.lk d)) /\ Rf (↑(DC.cm d) : Int) /\ Rf (↑(DC.lm d) : Int) /\ Rf (↑(DC.cb d) : Int) /\ Rf (↑(DC.mb d) : Int) /\ Rf (↑(DC.ns d) : Int) /\ x1 = x2.2 /\ False /- "match: values of two makes" -/) (Rf (DC.db d) /\ ∃ x1 : RV × Nat, (rsOK (RS.put x x1.1) /\ 1 <= x1.2 /\ x1.2 <= cl lens (RS.W x)) /\ IntKind.wrap IntKind.u64 (↑(DC.mb d) : Int) = (x1.2 : Int) /\ x.m = x.m /\ Rl x.rel /\ Rf x.rb /\ (x.off : Int) = (x1.1.off : Int) /\ (Rf x.sb /\ Ro) /\ Rf Value.nilIface /\ (Rf x.bb /\ Ro) /\ (x.bits : Int) = (x1.1.bits : Int) /\ (x.num : Int) = (x1.1.num : Int) /\ Rf x.big /\ (x.pk = x1.1.pk /\ x.pkn = x1.1.pkn) /\ x.dis = x1.1.dis /\ (x.fed : Int) = (x1.1.fed : Int) /\ Rf (Value.pointer none) /\ (Rf x.bb /\ Ro) /\ Rf (Value.pointer none) /\ Rf x.sb /\ (Rf x.vs /\ Rf (ints x.bs)) /\ (x.off : Int) = (x1.1.off : Int) /\ x.prev = x1.1.prev /\ Rf x.bb /\ (Rf x.sb /\ Ro) /\ (x.pos : Int) = (x1.1.pos : Int) /\ (x.bv = x1.1.bv /\ x.bn = x1.1.bn) /\ (Rf 512 /\ x.arr = x1.1.arr) /\ Rf (DC.db d) /\ (Rf (DC.cv d) /\ Rf (ints (DC.ch d))) /\ (Rf (DC.lv d) /\ Rf (DC.lk d)) /\ Rf (↑(DC.cm d) : Int) /\ Rf (↑(DC.lm d) : Int) /\ Rf (↑(DC.cb d) : Int) /\ Rf (↑(DC.mb d) : Int) /\ Rf (↑(DC.ns d) : Int) /\ ∀ x2 : RV × Nat, ((rsOK (RS.put x x2.1) /\ 1 <= x2.2 /\ x2.2 <= cl lens (RS.W x)) -> ∃ x3 : Nat, ∀ x4 : Fz, (rsOK (RS.mk x4 x.rel x.rb x.sb x.bb x.vs (nats (ints x.bs)) x.big x3 x2.1.off x2.1.bits x2.1.num x2.1.pk x2.1.pkn x2.1.dis x2.1.fed x2.1.pos x2.1.bv x2.1.bn x2.1.arr x2.1.prev) /\ x2.2 <= 56) /\ (Rf x.rb /\ Ro) /\ Rf (x2.2 : Int) /\ x4 = x4 /\ Rl x.rel /\ Rf x.rb /\ Rf (x2.1.off : Int) /\ (Rf x.sb /\ Ro) /\ Rf Value.nilIface /\ (Rf x.bb /\ Ro) /\ Rf (x2.1.bits : Int) /\ Rf (x2.1.num : Int) /\ Rf x.big /\ (Rf x2.1.pk /\ Rf x2.1.pkn) /\ Rf x2.1.dis /\ Rf (x2.1.fed : Int) /\ Rf (Value.pointer none) /\ (Rf x.bb /\ Ro) /\ Rf (Value.pointer none) /\ Rf x.sb /\ (Rf x.vs /\ ints x.bs = ints (nats (ints x.bs))) /\ Rf (x2.1.off : Int) /\ Rf x2.1.prev /\ Rf x.bb /\ (Rf x.sb /\ Ro) /\ Rf (x2.1.pos : Int) /\ (Rf x2.1.bv /\ Rf x2.1.bn) /\ (Rf 512 /\ Rf x2.1.arr) /\ (∀ x5 : RV, ((pulled (RS.mk x4 x.rel x.rb x.sb x.bb x.vs (nats (ints x.bs)) x.big x3 x2.1.off x2.1.bits x2.1.num x2.1.pk x2.1.pkn x2.1.dis x2.1.fed x2.1.pos x2.1.bv x2.1.bn x2.1.arr x2.1.prev) x2.2 x5) -> x4 = x4 /\
 Rf (DC.db d) /\ Rf x.rb /\ Rf (DC.db d) /\ inRange (bitI BinOp.and IntKind.u32 (IntKind.wrap IntKind.u32 (x5.bits : Int)) (↑(DC.cm d) : Int)) (List.length (ints (DC.ch d))) /\ Int.toNat (bitI BinOp.and IntKind.u32 (IntKind.wrap IntKind.u32 (x5.bits : Int)) (↑(DC.cm d) : Int)) < List.length (ints (DC.ch d)) /\ ∀ x6 : Int, (((ints (DC.ch d))[Int.toNat (bitI BinOp.and IntKind.u32 (IntKind.wrap IntKind.u32 (x5.bits : Int)) (↑(DC.cm d) : Int))]? = some x6) -> Rf (DC.db d) /\ Br (decide (IntKind.wrap IntKind.u64 (bitI BinOp.and IntKind.u32 x6 (31 : Int)) > IntKind.wrap IntKind.u64 (↑(DC.cb d) : Int))) ((0 : Int) <= (5 : Int) /\ Rf (DC.db d) /\ inRange (shrI IntKind.u32 x6 (5 : Int)) (List.length (DC.lk d)) /\ Int.toNat (shrI IntKind.u32 x6 (5 : Int)) < List.length (DC.lk d) /\ ∀ x7 : Sl, (((DC.lk d)[Int.toNat (shrI IntKind.u32 x6 (5 : Int))]? = some x7) -> Rf x.rb /\ Rf (DC.db d) /\ (0 : Int) <= (↑(DC.cb d) : Int) /\ Rf (DC.db d) /\ ∃ x8 : (List (Tys.El TT 43)), isRo x.rel 43 (Value.slice x7.A x7.n x7.cap) x8 /\ ((x7.n = x8.length) -> inRange (bitI BinOp.and IntKind.u32 (IntKind.wrap IntKind.u32 (shrI IntKind.u64 (x5.bits : Int) (↑(DC.cb d) : Int))) (↑(DC.lm d) : Int)) x8.length /\ Int.toNat (bitI BinOp.and IntKind.u32 (IntKind.wrap IntKind.u32 (shrI IntKind.u64 (x5.bits : Int) (↑(DC.cb d) : Int))) (↑(DC.lm d) : Int)) < x8.length /\ ∀ x9 : Int, ((x8[Int.toNat (bitI BinOp.and IntKind.u32 (IntKind.wrap IntKind.u32 (shrI IntKind.u64 (x5.bits : Int) (↑(DC.cb d) : Int))) (↑(DC.lm d) : Int))]? = some x9) -> Rf x.rb /\ Br (decide (IntKind.wrap IntKind.u64 (bitI BinOp.and IntKind.u32 x9 (31 : Int)) <= (x5.num : Int))) (Rf x.rb /\ (0 : Int) <= IntKind.wrap IntKind.u64 (bitI BinOp.and IntKind.u32 x9 (31 : Int)) /\ Rf x.rb /\ Rf x.rb /\ Rf x.rb /\ (0 : Int) <= (5 : Int) /\ ∃ x10 : RV, took x (cl lens (RS.W x)) x10 /\ (IntKind.wrap IntKind.u64 (shrI IntKind.u32 x9 (5 : Int)) = (↑(cd lens (RS.W x)) : Int)) /\ x.m = x.m /\ Rl x.rel /\ Rf x.rb /\ (x5.off : Int) = (x10.off : Int) /\ (Rf x.sb /\ Ro) /\ Rf Value.nilIface /\ (Rf x.bb /\ Ro) /\ shrI IntKind.u64 (x5.bits : Int) (IntKind.wrap IntKind.u64 (bitI BinOp.and IntKind.u32 x9 (31 : Int))) = (x10.bits : Int) /\ IntKind.wrap IntKind.u64 ((x5.num : Int) - IntKind.wrap IntKind.u64 (bitI BinOp.and IntKind.u32 x9 (31 : Int))) = (x10.num : Int) /\ Rf x.big /\ (x5.pk = x10.pk /\ x5.pkn = x10.pkn) /\ x5.dis = x10.dis /\ (x5.fed : Int) = (x10.fed : Int) /\ Rf (Value.pointer none) /\ (Rf x.bb /\ Ro) /\ Rf (Value.pointer none) /\ Rf x.sb /\ (Rf x.vs /\ ints (nats (ints x.bs)) = ints x.bs) /\ (x5.off : Int) = (x10.off : Int) /\ x5.prev = x10.prev /\ Rf x.bb /\ (Rf x.sb /\ Ro) /\ (x5.pos : Int) = (x10.pos : Int) /\ (x5.bv = x10.bv /\ x5.bn = x10.bn) /\ (Rf 512 /\ x5.arr = x10.arr) /\ Rf (DC.db d) /\ (Rf (DC.cv d) /\ Rf (ints (DC.ch d))) /\ (Rf (DC.lv d) /\ Rf (DC.lk d)) /\ Rf (↑(DC.cm d) : Int) /\ Rf (↑(DC.lm d) : Int) /\ Rf (↑(DC.cb d) : Int) /\ Rf (↑(DC.mb d) : Int) /\ Rf (↑(DC.ns d) : Int) /\ True)
 (∃ x10 : RV × Nat, ((rsOK (RS.put x x10.1) /\ 1 <= x10.2 /\ x10.2 <= cl lens (RS.W x)) /\ 21 - x10.2 < 21 - x2.2) /\ IntKind.wrap IntKind.u64 (bitI BinOp.and IntKind.u32 x9 (31 : Int)) = (x10.2 : Int) /\ x.m = x.m /\ Rl x.rel /\ Rf x.rb /\ (x5.off : Int) = (x10.1.off : Int) /\ (Rf x.sb /\ Ro) /\ Rf Value.nilIface /\ (Rf x.bb /\ Ro) /\ (x5.bits : Int) = (x10.1.bits : Int) /\ (x5.num : Int) = (x10.1.num : Int) /\ Rf x.big /\ (x5.pk = x10.1.pk /\ x5.pkn = x10.1.pkn) /\ x5.dis = x10.1.dis /\ (x5.fed : Int) = (x10.1.fed : Int) /\ Rf (Value.pointer none) /\ (Rf x.bb /\ Ro) /\ Rf (Value.pointer none) /\ Rf x.sb /\ (Rf x.vs /\ ints (nats (ints x.bs)) = ints x.bs) /\ (x5.off : Int) = (x10.1.off : Int) /\ x5.prev = x10.1.prev /\ Rf x.bb /\ (Rf x.sb /\ Ro) /\ (x5.pos : Int) = (x10.1.pos : Int) /\ (x5.bv = x10.1.bv /\ x5.bn = x10.1.bn) /\ (Rf 512 /\ x5.arr = x10.1.arr) /\ Rf (DC.db d) /\ (Rf (DC.cv d) /\ Rf (ints (DC.ch d))) /\ (Rf (DC.lv d) /\ Rf (DC.lk d)) /\ Rf (↑(DC.cm d) : Int) /\ Rf (↑(DC.lm d) : Int) /\ Rf (↑(DC.cb d) : Int) /\ Rf (↑(DC.mb d) : Int) /\ Rf (↑(DC.ns d) : Int) /\ True))))) (Rf x.rb /\ Br (decide (IntKind.wrap IntKind.u64 (bitI BinOp.and IntKind.u32 x6 (31 : Int)) <= (x5.num : Int))) (Rf x.rb /\ (0 : Int) <= IntKind.wrap IntKind.u64 (bitI BinOp.and IntKind.u32 x6 (31 : Int)) /\ Rf x.rb /\ Rf x.rb /\ Rf x.rb /\ (0 : Int) <= (5 : Int) /\ ∃ x7 : RV, took x (cl lens (RS.W x)) x7 /\ (IntKind.wrap IntKind.u64 (shrI IntKind.u32 x6 (5 : Int)) = (↑(cd lens (RS.W x)) : Int)) /\ x.m = x.m /\ Rl x.rel /\ Rf x.rb /\ (x5.off : Int) = (x7.off : Int) /\ (Rf x.sb /\ Ro) /\ Rf Value.nilIface /\ (Rf x.bb /\ Ro) /\ shrI IntKind.u64 (x5.bits : Int) (IntKind.wrap IntKind.u64 (bitI BinOp.and IntKind.u32 x6 (31 : Int))) = (x7.bits : Int) /\ IntKind.wrap IntKind.u64 ((x5.num : Int) - IntKind.wrap IntKind.u64 (bitI BinOp.and IntKind.u32 x6 (31 : Int))) = (x7.num : Int) /\ Rf x.big /\ (x5.pk = x7.pk /\ x5.pkn = x7.pkn) /\ x5.dis = x7.dis /\ (x5.fed : Int) = (x7.fed : Int) /\ Rf (Value.pointer none) /\ (Rf x.bb /\ Ro) /\ Rf (Value.pointer none) /\ Rf x.sb /\ (Rf x.vs /\ ints (nats (ints x.bs)) = ints x.bs) /\ (x5.off : Int) = (x7.off : Int) /\ x5.prev = x7.prev /\ Rf x.bb /\ (Rf x.sb /\ Ro) /\ (x5.pos : Int) = (x7.pos : Int) /\ (x5.bv = x7.bv /\ x5.bn = x7.bn) /\ (Rf 512 /\ x5.arr = x7.arr) /\ Rf (DC.db d) /\ (Rf (DC.cv d) /\ Rf (ints (DC.ch d))) /\ (Rf (DC.lv d) /\ Rf (DC.lk d)) /\ Rf (↑(DC.cm d) : Int) /\ Rf (↑(DC.lm d) : Int) /\ Rf (↑(DC.cb d) : Int) /\ Rf (↑(DC.mb d) : Int) /\ Rf (↑(DC.ns d) : Int) /\ True) (∃ x7 : RV × Nat, ((rsOK (RS.put x x7.1) /\ 1 <= x7.2 /\ x7.2 <= cl lens (RS.W x)) /\ 21 - x7.2 < 21 - x2.2) /\ IntKind.wrap IntKind.u64 (bitI BinOp.and IntKind.u32 x6 (31 : Int)) = (x7.2 : Int) /\ x.m = x.m /\ Rl x.rel /\ Rf x.rb /\ (x5.off : Int) = (x7.1.off : Int) /\ (Rf x.sb /\ Ro) /\ Rf Value.nilIface /\ (Rf x.bb /\ Ro) /\ (x5.bits : Int) = (x7.1.bits : Int) /\ (x5.num : Int) = (x7.1.num : Int) /\ Rf x.big /\ (x5.pk = x7.1.pk /\ x5.pkn = x7.1.pkn) /\ x5.dis = x7.1.dis /\ (x5.fed : Int) = (x7.1.fed : Int) /\ Rf (Value.pointer none) /\ (Rf x.bb /\ Ro) /\
 Rf (Value.pointer none) /\ Rf x.sb /\ (Rf x.vs /\ ints (nats (ints x.bs)) = ints x.bs) /\ (x5.off : Int) = (x7.1.off : Int) /\ x5.prev = x7.1.prev /\ Rf x.bb /\ (Rf x.sb /\ Ro) /\ (x5.pos : Int) = (x7.1.pos : Int) /\ (x5.bv = x7.1.bv /\ x5.bn = x7.1.bn) /\ (Rf 512 /\ x5.arr = x7.1.arr) /\ Rf (DC.db d) /\ (Rf (DC.cv d) /\ Rf (ints (DC.ch d))) /\ (Rf (DC.lv d) /\ Rf (DC.lk d)) /\ Rf (↑(DC.cm d) : Int) /\ Rf (↑(DC.lm d) : Int) /\ Rf (↑(DC.cb d) : Int) /\ Rf (↑(DC.mb d) : Int) /\ Rf (↑(DC.ns d) : Int) /\ True))))) /\ (∀ x5 : RV, ((dry (RS.mk x4 x.rel x.rb x.sb x.bb x.vs (nats (ints x.bs)) x.big x3 x2.1.off x2.1.bits x2.1.num x2.1.pk x2.1.pkn x2.1.dis x2.1.fed x2.1.pos x2.1.bv x2.1.bn x2.1.arr x2.1.prev) x2.2 x5) -> x4 = x4 /\ ∀ x6 : Nat, ∃ x7 : RV × Nat, lacks x (cl lens (RS.W x)) x7.1 /\ (x6 = x7.2 /\ Ro) /\ x.m = x.m /\ Rl x.rel /\ Rf x.rb /\ (x5.off : Int) = (x7.1.off : Int) /\ (Rf x.sb /\ Ro) /\ Rf Value.nilIface /\ (Rf x.bb /\ Ro) /\ (x5.bits : Int) = (x7.1.bits : Int) /\ (x5.num : Int) = (x7.1.num : Int) /\ Rf x.big /\ (x5.pk = x7.1.pk /\ x5.pkn = x7.1.pkn) /\ x5.dis = x7.1.dis /\ (x5.fed : Int) = (x7.1.fed : Int) /\ Rf (Value.pointer none) /\ (Rf x.bb /\ Ro) /\ Rf (Value.pointer none) /\ Rf x.sb /\ (Rf x.vs /\ ints (nats (ints x.bs)) = ints x.bs) /\ (x5.off : Int) = (x7.1.off : Int) /\ x5.prev = x7.1.prev /\ Rf x.bb /\ (Rf x.sb /\ Ro) /\ (x5.pos : Int) = (x7.1.pos : Int) /\ (x5.bv = x7.1.bv /\ x5.bn = x7.1.bn) /\ (Rf 512 /\ x5.arr = x7.1.arr) /\ Rf (DC.db d) /\ (Rf (DC.cv d) /\ Rf (ints (DC.ch d))) /\ (Rf (DC.lv d) /\ Rf (DC.lk d)) /\ Rf (↑(DC.cm d) : Int) /\ Rf (↑(DC.lm d) : Int) /\ Rf (↑(DC.cb d) : Int) /\ Rf (↑(DC.mb d) : Int) /\ Rf (↑(DC.ns d) : Int) /\ x6 = x7.2 /\ Rf (errV (Gl.U G)) /\ True))))
noncomputable def law_c105 (G : Gl) (P : Nat) (lens : List Nat) (x : RS) (d : DC) : VCT := fnx (CH G 4) (INH G 4 (b103 G) NA) (a105 x lens) Tryz.f105 ((c105 G P lens).args (x, d)) ((c105 G P lens).H (x, d)) (outK true 6 ((c105 G P lens).ret (x, d))) ((c105 G P lens).pan (x, d))
theorem eq_c105 (G : Gl) (P : Nat) (lens : List Nat) (x : RS) (d : DC) : cond_c105 G P lens x d = (law_c105 G P lens x d).den := by kernel_rfl
theorem low31 {k n : Nat} (hk : k < 100000000) (hn : n < 32) : bitI BinOp.and IntKind.u32 ((k * 32 + n : Nat) : Int) 31 = (n : Int) /\ shrI IntKind.u32 ((k * 32 + n : Nat) : Int) 5 = (k : Int) := by
 constructor
 . rw [show (31 : Int) = ((31 : Nat) : Int) from rfl, andN rfl (by simp only [IntKind.bits]; omega) (by decide), show (31 : Nat) = 2 ^ 5 - 1 from rfl, Nat.and_two_pow_sub_one_eq_mod]
   omega
 . rw [show (5 : Int) = ((5 : Nat) : Int) from rfl, shrN, show min 5 IntKind.u32.bits = 5 from rfl]
   omega
theorem maskN {b n : Nat} (hn : n <= 16) : bitI BinOp.and IntKind.u32 (IntKind.u32.wrap (b : Int)) ((2 ^ n - 1 : Nat) : Int) = ((b % 2 ^ n : Nat) : Int) := by
 have h1 : (2 : Nat) ^ n <= 2 ^ 16 := Nat.pow_le_pow_right (by decide) hn
 rw [wrN rfl, andN rfl (Nat.mod_lt _ (by decide)) (by simp only [IntKind.bits]; omega), Nat.and_two_pow_sub_one_eq_mod]
 simp only [IntKind.bits]
 rw [Nat.mod_mod_of_dvd _ (Nat.pow_dvd_pow 2 (by omega))]
theorem ok_c105 (G : Gl) (P : Nat) (lens : List Nat) (x : RS) (d : DC) (hx : rsOK x) (hd : decOK x.rel lens d) : cond_c105 G P lens x d := by
 unfold cond_c105
 have e3 : ∀ l : List Nat, nats (ints l) = l := nats_ints
 have hg := hd.good
 have hcl := cl_pos hg x.W
 have hmb := hd.mb
 have hmbW := hmb.2 x.W
 have hcb := hd.cb
 have hlen := hd.len
 have hpow : 0 < 2 ^ d.cb := Nat.pow_pos (by decide)
 have hpow9 : 2 ^ d.cb <= 2 ^ 9 := Nat.pow_le_pow_right (by decide) hcb.2
 have e1 : IntKind.u64.wrap (d.mb : Int) = (d.mb : Int) := by rw [wr64]; omega
 have e2 : IntKind.u64.wrap (d.cb : Int) = (d.cb : Int) := by rw [wr64]; omega
 have hcm : (d.cm : Int) = ((2 ^ d.cb - 1 : Nat) : Int) := by rw [hd.cm]
 simp only [e1, e2, e3, hcm, br_d, br_i, rel_self, true_and, and_true, inRange, Int.toNat_natCast, ints_len]
 refine ⟨fun h => by omega, fun _ => ⟨(⟨x.off, x.bits, x.num, x.pk, x.pkn, x.dis, x.fed, x.pos, x.bv, x.bn, x.arr, x.prev⟩, d.mb), ⟨rs_m hx rfl, hmb.1, hmbW⟩, rfl, rfl, rfl, rfl, ⟨rfl, rfl⟩, rfl, rfl, rfl, rfl, rfl, ⟨rfl, rfl⟩, rfl, fun y hy => ⟨x.P, fun m => ⟨⟨rs_m hy.1 rfl, by omega⟩, fun v hv => ?_, fun v hv e => ⟨(v, e), ⟨rs_m hv.ok rfl, ?_⟩, rfl, rfl, rfl, rfl, ⟨rfl, rfl⟩, rfl, rfl, rfl, rfl, rfl, ⟨rfl, rfl⟩, rfl, rfl⟩⟩⟩⟩⟩
 . have hbk : bkOK x.W v.bits v.num := hv.ok.l.bk
   have hnum : y.2 <= v.num := hv.num
   have hok : rsOK (x.put v) := rs_m hv.ok rfl
   have hmono := cl_mono hg hbk.up
   have hclb := cl_pos hg v.bits
   have hcdb := (cd_hit hg v.bits).1
   have h60 := hg.sixty
   have hm := maskN (b := v.bits) (n := d.cb) (by omega)
   have hsame : cl lens v.bits <= v.num -> cd lens x.W = cd lens v.bits /\ cl lens x.W = cl lens v.bits := by
     intro h
     have h1 := cd_same hg (v := v.bits) (w := x.W) (bk_val hbk h)
     exact ⟨h1, by unfold cl; rw [h1]⟩
   have hmod : v.bits % 2 ^ d.cb < 2 ^ d.cb := Nat.mod_lt _ hpow
   simp only [hm, Int.toNat_natCast]
   have hw1 : IntKind.u64.wrap ((cl lens v.bits : Nat) : Int) = (cl lens v.bits : Int) := by rw [wr64]; omega
   have hw2 : IntKind.u64.wrap ((cd lens v.bits : Nat) : Int) = (cd lens v.bits : Int) := by rw [wr64]; omega
   have hL := low31 (k := cd lens v.bits) (n := cl lens v.bits) (by omega) (by omega)
   have h64 : v.num <= 64 := hbk.n
   have t1 : cl lens v.bits <= v.num -> took x (cl lens x.W) { v with bits := v.bits / 2 ^ cl lens v.bits, num := v.num - cl lens v.bits } := by
     intro h
     rw [(hsame h).2]
     exact rs_take (x := x) (v := v) hok h
   have t2 : shrI IntKind.u64 (v.bits : Int) (cl lens v.bits : Int) = ((v.bits / 2 ^ cl lens v.bits : Nat) : Int) := by
     rw [shrN, show min (cl lens v.bits) IntKind.u64.bits = cl lens v.bits by simp only [IntKind.bits]; omega]
   refine ⟨by omega, by omega, fun z hz => ?_⟩
   obtain ⟨c, hc, rfl⟩ := ints_get hz
   rcases Nat.lt_or_ge d.cb (cl lens v.bits) with hlong | hshort
   . obtain ⟨k, sl, tb, lb, h1, h2, h3, h4, h5, h6, h7, h8, h9⟩ := hd.long v.bits hlong
     obtain rfl := Option.some.inj (hc.symm.trans h1)
     have hK := low31 (k := k) (n := d.cb + 1) (by omega) (by omega)
     have hwk : IntKind.u64.wrap ((d.cb + 1 : Nat) : Int) = ((d.cb + 1 : Nat) : Int) := by rw [wr64]; omega
     have hsh : shrI IntKind.u64 (v.bits : Int) (d.cb : Int) = ((v.bits / 2 ^ d.cb : Nat) : Int) := by
       rw [shrN, show min d.cb IntKind.u64.bits = d.cb by simp only [IntKind.bits]; omega]
     have hlm := maskN (b := v.bits / 2 ^ d.cb) (n := lb) (by omega)
     have hkl := (List.getElem?_eq_some_iff.1 h3).1
     have htl := (List.getElem?_eq_some_iff.1 h9).1
     simp only [hK, hwk, hsh, h7, hlm, h3, Int.toNat_natCast, Option.some.injEq, forall_eq']
     refine ⟨fun _ => ⟨by decide, by omega, hkl, by omega, ints tb, h4, fun _ => ⟨(show 0 <= ((v.bits / 2 ^ d.cb % 2 ^ lb : Nat) : Int) /\ ((v.bits / 2 ^ d.cb % 2 ^ lb : Nat) : Int) < ((ints tb).length : Nat) by rw [ints_len]; omega), (show v.bits / 2 ^ d.cb % 2 ^ lb < (ints tb).length by rw [ints_len]; exact htl), fun z hz => ?_⟩⟩, fun h => by omega⟩
     obtain ⟨c, hc, rfl⟩ := ints_get hz
     obtain rfl := Option.some.inj (hc.symm.trans h9)
     simp only [hL, hw1, hw2, t2]
     refine ⟨fun h => ⟨by omega, by decide, _, t1 (by omega), ?_, rfl, rfl, ?_, ⟨rfl, rfl⟩, rfl, rfl, rfl, rfl, rfl, ⟨rfl, rfl⟩, rfl⟩, fun h => ⟨(v, cl lens v.bits), ⟨⟨hok, hclb.1, hmono⟩, by dsimp only; omega⟩, rfl, rfl, rfl, rfl, ⟨rfl, rfl⟩, rfl, rfl, rfl, rfl, rfl, ⟨rfl, rfl⟩, rfl⟩⟩
     . rw [(hsame (by omega)).1]
     . rw [wr64]; dsimp only; omega
   . have h1 := hd.short v.bits hshort
     obtain rfl := Option.some.inj (hc.symm.trans h1)
     simp only [hL, hw1, hw2, t2]
     refine ⟨fun h => by omega, fun _ => ⟨fun h => ⟨by omega, by decide, _, t1 (by omega), ?_, rfl, rfl, ?_, ⟨rfl, rfl⟩, rfl, rfl, rfl, rfl, rfl, ⟨rfl, rfl⟩, rfl⟩, fun h => ⟨(v, cl lens v.bits), ⟨⟨hok, hclb.1, hmono⟩, by dsimp only; omega⟩, rfl, rfl, rfl, rfl, ⟨rfl, rfl⟩, rfl, rfl, rfl, rfl, rfl, ⟨rfl, rfl⟩, rfl⟩⟩⟩
     . rw [(hsame (by omega)).1]
     . rw [wr64]; dsimp only; omega
 . have h1 : x.P + v.num = 8 * x.bs.length := hv.all
   have h2 : v.num < y.2 := hv.num
   omega
theorem s105 (G : Gl) (P : Nat) (lens : List Nat) : SpecOK (CC G) 105 (c105 G P lens).pt := specH G 4 (b103_ok G) (fn := Tryz.f105) rfl NA (c105 G P lens) (fun x => a105 x.1 lens) fun ⟨x, d⟩ h => Met.of (eq_c105 G P lens x d) (ok_c105 G P lens x d h.1 h.2)
end Pc
/-
 The reference's writing: small functions.
-/
set_option linter.unusedVariables false
set_option maxRecDepth 100000
open Go Go.Vg Go.Proofs
namespace Pc
def cond_c54 (G : Gl) (x : XP × Nat × Nat) : Prop :=
 ∃ x1 : Nat × Value, x1.1 <= x.2.2 /\ (0 : Int) = (x1.1 : Int) /\ Rf x.1.m /\ Rl x.1.rel /\ Rf x.1.b /\ (x.1.y = x1.2 /\ x.1.B.length = x.1.B.length + x1.1) /\ (x.1.y = x1.2 /\ ints x.1.B = ints (x.1.B ++ nb x.2.1 x1.1)) /\ ∀ x2 : Nat × Value, ((x2.1 <= x.2.2) -> Br (decide ((x2.1 : Int) < (x.2.2 : Int))) (Rf x.1.b /\ (0 : Int) <= (x2.1 : Int) /\ ∀ x3 : Nat, (Rf x2.2 /\ x.1.B.length + x2.1 = List.length (ints (x.1.B ++ nb x.2.1 x2.1))) /\ (Rf (Value.slice (some (Addr.mk x3 0 none)) 1 1) /\ 1 = List.length [IntKind.wrap IntKind.u8 (bitI BinOp.and IntKind.u64 (shrI IntKind.u64 (x.2.1 : Int) (x2.1 : Int)) (1 : Int))]) /\ room (List.length (ints (x.1.B ++ nb x.2.1 x2.1)) + List.length [IntKind.wrap IntKind.u8 (bitI BinOp.and IntKind.u64 (shrI IntKind.u64 (x.2.1 : Int) (x2.1 : Int)) (1 : Int))]) 1 /\ ∀ x4 : Value, Rf x.1.b /\ ∃ x5 : Nat × Value, (x5.1 <= x.2.2 /\ x.2.2 - x5.1 < x.2.2 - x2.1) /\ IntKind.wrap IntKind.u64 ((x2.1 : Int) + (1 : Int)) = (x5.1 : Int) /\ Rf x.1.m /\ relLe x.1.rel (relAdd x.1.rel 5 (Value.slice (some (Addr.mk x3 0 none)) 1 1) [IntKind.wrap IntKind.u8 (bitI BinOp.and IntKind.u64 (shrI IntKind.u64 (x.2.1 : Int) (x2.1 : Int)) (1 : Int))]) /\ Rf x.1.b /\ (x4 = x5.2 /\ x.1.B.length + x2.1 + List.length [IntKind.wrap IntKind.u8 (bitI BinOp.and IntKind.u64 (shrI IntKind.u64 (x.2.1 : Int) (x2.1 : Int)) (1 : Int))] = x.1.B.length + x5.1) /\ (x4 = x5.2 /\ ints (x.1.B ++ nb x.2.1 x2.1) ++ [IntKind.wrap IntKind.u8 (bitI BinOp.and IntKind.u64 (shrI IntKind.u64 (x.2.1 : Int) (x2.1 : Int)) (1 : Int))] = ints (x.1.B ++ nb x.2.1 x5.1)) /\ True) (∃ x3 : Value, True /\ Rf x.1.m /\ Rl x.1.rel /\ Rf x.1.b /\ (x2.2 = x3 /\ x.1.B.length + x2.1 = List.length (x.1.B ++ nb x.2.1 x.2.2)) /\ (x2.2 = x3 /\ ints (x.1.B ++ nb x.2.1 x2.1) = ints (x.1.B ++ nb x.2.1 x.2.2)) /\ True))
noncomputable def law_c54 (G : Gl) (x : XP × Nat × Nat) : VCT := fnx (CC G) (IN G no NA) (a54 x) Tryz.f54 (c54.args x) (c54.H x) (outK true 4 (c54.ret x)) (c54.pan x)
theorem eq_c54 (G : Gl) (x : XP × Nat × Nat) : cond_c54 G x = (law_c54 G x).den := by kernel_rfl
def cond_c55 (G : Gl) (m : Fz) (rel : Rel TT) (x : Value) (lens : List Nat) (v : Nat) : Prop :=
 ∀ x1 : Nat, ∃ x2 : Nat, (x2 <= List.length lens /\ x2 <= v) /\ (0 : Int) = (x2 : Int) /\ m = m /\ relLe rel rel /\ x1 = x1 /\ Rz /\ Rz /\ Rz /\ Rz /\ ∀ x3 : Nat, ((x3 <= List.length lens /\ x3 <= v) -> Br (decide ((x3 : Int) < (↑(List.length (canonL lens)) : Int))) (inRange (x3 : Int) (List.length (canonL lens)) /\ x3 < List.length (canonL lens) /\ x3 < List.length (canonL lens) /\ ∀ x4 : Cd, (((canonL lens)[x3]? = some x4) -> Br (IntKind.wrap IntKind.u64 x4.sym == (↑v : Int)) (inRange (x3 : Int) (List.length (canonL lens)) /\ x3 < List.length (canonL lens) /\ ∀ x5 : Cd, (((canonL lens)[x3]? = some x5) -> x1 = x1 /\ x1 = x1 /\ ((∃ x6 : Unit, List.length lens <= v /\ x5.sym = (0 : Int) /\ x5.cnt = (0 : Int) /\ x5.len = (0 : Int) /\ x5.val = (0 : Int) /\ true = false /\ m = m /\ relLe rel rel /\ True) \/ (∃ x6 : Unit, v < List.length lens /\ x5.sym = (↑v : Int) /\ x5.cnt = (0 : Int) /\ x5.len = (↑(List.getD lens v 0) : Int) /\ x5.val = (↑(codeV lens v) : Int) /\ Rf true /\ m = m /\ relLe rel rel /\ True)))) (inI64 ((x3 : Int) + (1 : Int)) /\ ∃ x5 : Nat, ((x5 <= List.length lens /\ x5 <= v) /\ List.length lens - x5 < List.length lens - x3) /\ (x3 : Int) + (1 : Int) = (x5 : Int) /\ m = m /\ relLe rel rel /\ x1 = x1 /\ Rz /\ Rz /\ Rz /\ Rz /\ True))) (x1 = x1 /\ x1 = x1 /\ ((∃ x4 : Unit, List.length lens <= v /\ Rz /\ Rz /\ Rz /\ Rz /\ Rf false /\ m = m /\ relLe rel rel /\ True) \/ (∃ x4 : Unit, v < List.length lens /\ (0 : Int) = (↑v : Int) /\ Rz /\ (0 : Int) = (↑(List.getD lens v 0) : Int) /\ (0 : Int) = (↑(codeV lens v) : Int) /\ false = true /\ m = m /\ relLe rel rel /\ True))))
noncomputable def law_c55 (G : Gl) (m : Fz) (rel : Rel TT) (x : Value) (lens : List Nat) (v : Nat) : VCT := fnx (CC G) (IN G no NA) (a55 lens v) Tryz.f55 (c55.args (m, rel, x, lens, v)) (c55.H (m, rel, x, lens, v)) (outK true 2 (c55.ret (m, rel, x, lens, v))) (c55.pan (m, rel, x, lens, v))
theorem eq_c55 (G : Gl) (m : Fz) (rel : Rel TT) (x : Value) (lens : List Nat) (v : Nat) : cond_c55 G m rel x lens v = (law_c55 G m rel x lens v).den := by kernel_rfl
def cond_c56 (G : Gl) (m : Fz) (rel : Rel TT) (x : Value) (extra : List Nat) (v : Nat) : Prop :=
 ∃ x1 : Nat, (x1 <= List.length extra /\ ∀ (j : Nat), j < x1 -> ¬(sum2 (List.take j extra) <= v /\ v < sum2 (List.take (j + 1) extra))) /\ (0 : Int) = (x1 : Int) /\ m = m /\ relLe rel rel /\ ∀ x2 : Nat, ((x2 <= List.length extra /\ ∀ (j : Nat), j < x2 -> ¬(sum2 (List.take j extra) <= v /\ v < sum2 (List.take (j + 1) extra))) -> Br (decide ((x2 : Int) < (↑(List.length (rgL 0 extra)) : Int))) (inRange (x2 : Int) (List.length (rgL 0 extra)) /\ x2 < List.length (rgL 0 extra) /\ x2 < List.length (rgL 0 extra) /\ ∀ x3 : Rg, (((rgL 0 extra)[x2]? = some x3) -> Br (decide ((↑v : Int) >= IntKind.wrap IntKind.u64 x3.base)) (inRange (x2 : Int) (List.length (rgL 0 extra)) /\ x2 < List.length (rgL 0 extra) /\ x2 < List.length (rgL 0 extra) /\ ∀ x4 : Rg, (((rgL 0 extra)[x2]? = some x4) -> inRange (x2 : Int) (List.length (rgL 0 extra)) /\ x2 < List.length (rgL 0 extra) /\ x2 < List.length (rgL 0 extra) /\ ∀ x5 : Rg, (((rgL 0 extra)[x2]? = some x5) -> (0 : Int) <= x5.len /\ Br (decide ((↑v : Int) < IntKind.wrap IntKind.u64 (IntKind.wrap IntKind.u64 x4.base + shlI IntKind.u64 (1 : Int) x5.len))) (((∃ x6 : Unit, rgM extra v = none /\ IntKind.wrap IntKind.u64 (x2 : Int) = (0 : Int) /\ true = false /\ m = m /\ relLe rel rel /\ True) \/ (∃ x6 : Nat, rgM extra v = some x6 /\ IntKind.wrap IntKind.u64 (x2 : Int) = (x6 : Int) /\ Rf true /\ m = m /\ relLe rel rel /\ True))) (inI64 ((x2 : Int) + (1 : Int)) /\ ∃ x6 : Nat, ((x6 <= List.length extra /\ ∀ (j : Nat), j < x6 -> ¬(sum2 (List.take j extra) <= v /\ v < sum2 (List.take (j + 1) extra))) /\ List.length extra - x6 < List.length extra - x2) /\ (x2 : Int) + (1 : Int) = (x6 : Int) /\ m = m /\ relLe rel rel /\ True)))) (inI64 ((x2 : Int) + (1 : Int)) /\ ∃ x4 : Nat, ((x4 <= List.length extra /\ ∀ (j : Nat), j < x4 -> ¬(sum2 (List.take j extra) <= v /\ v < sum2 (List.take (j + 1) extra))) /\ List.length extra - x4 < List.length extra - x2) /\ (x2 : Int) + (1 : Int) = (x4 : Int) /\ m = m /\ relLe rel rel /\ True))) (((∃ x3 : Unit, rgM extra v = none /\ Rz /\ Rf false /\ m = m /\ relLe rel rel /\ True) \/ (∃ x3 : Nat, rgM extra v = some x3 /\ (0 : Int) = (x3 : Int) /\ false = true /\ m = m /\ relLe rel rel /\ True))))
noncomputable def law_c56 (G : Gl) (m : Fz) (rel : Rel TT) (x : Value) (extra : List Nat) (v : Nat) : VCT := fnx (CC G) (IN G no NA) (a56 extra v) Tryz.f56 (c56.args (m, rel, x, extra, v)) (c56.H (m, rel, x, extra, v)) (outK true 2 (c56.ret (m, rel, x, extra, v))) (c56.pan (m, rel, x, extra, v))
theorem eq_c56 (G : Gl) (m : Fz) (rel : Rel TT) (x : Value) (extra : List Nat) (v : Nat) : cond_c56 G m rel x extra v = (law_c56 G m rel x extra v).den := by kernel_rfl
def cond_c57 (G : Gl) (m : Fz) (rel : Rel TT) (x : Value) (B : List Nat) (big : Bool) : Prop :=
 (inI64 ((↑(List.length (ints B)) : Int) + (7 : Int))) /\ (8 : Int) ≠ (0 : Int) /\ ((0 : Int) <= IntKind.wrap IntKind.i64 (Int.tdiv ((↑(List.length (ints B)) : Int) + (7 : Int)) (8 : Int)) /\ IntKind.wrap IntKind.i64 (Int.tdiv ((↑(List.length (ints B)) : Int) + (7 : Int)) (8 : Int)) <= IntKind.wrap IntKind.i64 (Int.tdiv ((↑(List.length (ints B)) : Int) + (7 : Int)) (8 : Int)) /\ room (Int.toNat (IntKind.wrap IntKind.i64 (Int.tdiv ((↑(List.length (ints B)) : Int) + (7 : Int)) (8 : Int)))) 1) /\ ∀ x1 : Value, ∃ x2 : Nat, x2 <= List.length B /\ (0 : Int) = (x2 : Int) /\ m = m /\ relLe rel rel /\ (x1 = x1 /\ List.replicate (Int.toNat (IntKind.wrap IntKind.i64 (Int.tdiv ((↑(List.length (ints B)) : Int) + (7 : Int)) (8 : Int)))) (0 : Int) = ints (packL big (List.take x2 B) ((List.length B + 7) / 8))) /\ ∀ x3 : Nat, ((x3 <= List.length B) -> Br (decide ((x3 : Int) < (↑(List.length (ints B)) : Int))) ((8 : Int) ≠ (0 : Int) /\ Br (big) ((8 : Int) ≠ (0 : Int) /\ x1 = x1 /\ inRange (IntKind.wrap IntKind.i64 (Int.tdiv (x3 : Int) (8 : Int))) (List.length (ints (packL big (List.take x3 B) ((List.length B + 7) / 8)))) /\ x1 = x1 /\ Int.toNat (IntKind.wrap IntKind.i64 (Int.tdiv (x3 : Int) (8 : Int))) < List.length (ints (packL big (List.take x3 B) ((List.length B + 7) / 8))) /\ ∀ x4 : Int, (((ints (packL big (List.take x3 B) ((List.length B + 7) / 8)))[Int.toNat (IntKind.wrap IntKind.i64 (Int.tdiv (x3 : Int) (8 : Int)))]? = some x4) -> inRange (x3 : Int) (List.length (ints B)) /\ x3 < List.length (ints B) /\ ∀ x5 : Int, (((ints B)[x3]? = some x5) -> (0 : Int) <= IntKind.wrap IntKind.u64 ((7 : Int) - IntKind.wrap IntKind.u64 (Int.tmod (x3 : Int) (8 : Int))) /\ x1 = x1 /\ inRange (IntKind.wrap IntKind.i64 (Int.tdiv (x3 : Int) (8 : Int))) (List.length (ints (packL big (List.take x3 B) ((List.length B + 7) / 8)))) /\ (x1 = x1 /\ Int.toNat (IntKind.wrap IntKind.i64 (Int.tdiv (x3 : Int) (8 : Int))) < List.length (ints (packL big (List.take x3 B) ((List.length B + 7) / 8)))) /\ inI64 ((x3 : Int) + (1 : Int)) /\ ∃ x6 : Nat, (x6 <= List.length B /\ List.length B - x6 < List.length B - x3) /\ (x3 : Int) + (1 : Int) = (x6 : Int) /\ m = m /\ relLe rel rel /\ (x1 = x1 /\ List.set (ints (packL big (List.take x3 B) ((List.length B + 7) / 8))) (Int.toNat (IntKind.wrap IntKind.i64 (Int.tdiv (x3 : Int) (8 : Int)))) (bitI BinOp.or IntKind.u8 x4 (shlI IntKind.u8 x5 (IntKind.wrap IntKind.u64 ((7 : Int) - IntKind.wrap IntKind.u64 (Int.tmod (x3 : Int) (8 : Int)))))) = ints (packL big (List.take x6 B) ((List.length B + 7) / 8))) /\ True))) ((8 : Int) ≠ (0 : Int) /\ x1 = x1 /\ inRange (IntKind.wrap IntKind.i64 (Int.tdiv (x3 : Int) (8 : Int))) (List.length (ints (packL big (List.take x3 B) ((List.length B + 7) / 8)))) /\ x1 = x1 /\ Int.toNat (IntKind.wrap IntKind.i64 (Int.tdiv (x3 : Int) (8 : Int))) < List.length (ints (packL big (List.take x3 B) ((List.length B + 7) / 8))) /\ ∀ x4 : Int, (((ints (packL big (List.take x3 B) ((List.length B + 7) / 8)))[Int.toNat (IntKind.wrap IntKind.i64 (Int.tdiv (x3 : Int) (8 : Int)))]? = some x4) ->
 inRange (x3 : Int) (List.length (ints B)) /\ x3 < List.length (ints B) /\ ∀ x5 : Int, (((ints B)[x3]? = some x5) -> (0 : Int) <= IntKind.wrap IntKind.u64 (Int.tmod (x3 : Int) (8 : Int)) /\ x1 = x1 /\ inRange (IntKind.wrap IntKind.i64 (Int.tdiv (x3 : Int) (8 : Int))) (List.length (ints (packL big (List.take x3 B) ((List.length B + 7) / 8)))) /\ (x1 = x1 /\ Int.toNat (IntKind.wrap IntKind.i64 (Int.tdiv (x3 : Int) (8 : Int))) < List.length (ints (packL big (List.take x3 B) ((List.length B + 7) / 8)))) /\ inI64 ((x3 : Int) + (1 : Int)) /\ ∃ x6 : Nat, (x6 <= List.length B /\ List.length B - x6 < List.length B - x3) /\ (x3 : Int) + (1 : Int) = (x6 : Int) /\ m = m /\ relLe rel rel /\ (x1 = x1 /\ List.set (ints (packL big (List.take x3 B) ((List.length B + 7) / 8))) (Int.toNat (IntKind.wrap IntKind.i64 (Int.tdiv (x3 : Int) (8 : Int)))) (bitI BinOp.or IntKind.u8 x4 (shlI IntKind.u8 x5 (IntKind.wrap IntKind.u64 (Int.tmod (x3 : Int) (8 : Int))))) = ints (packL big (List.take x6 B) ((List.length B + 7) / 8))) /\ True)))) (∃ x4 : Value, True /\ (x1 = x4 /\ Int.toNat (IntKind.wrap IntKind.i64 (Int.tdiv ((↑(List.length (ints B)) : Int) + (7 : Int)) (8 : Int))) = (List.length B + 7) / 8) /\ m = m /\ relLe rel rel /\ (x1 = x4 /\ ints (packL big (List.take x3 B) ((List.length B + 7) / 8)) = ints (packL big B ((List.length B + 7) / 8))) /\ True))
noncomputable def law_c57 (G : Gl) (m : Fz) (rel : Rel TT) (x : Value) (B : List Nat) (big : Bool) : VCT := fnx (CC G) (IN G no NA) (a57 B big) Tryz.f57 (c57.args (m, rel, x, B, big)) (c57.H (m, rel, x, B, big)) (outK false 2 (c57.ret (m, rel, x, B, big))) (c57.pan (m, rel, x, B, big))
theorem eq_c57 (G : Gl) (m : Fz) (rel : Rel TT) (x : Value) (B : List Nat) (big : Bool) : cond_c57 G m rel x B big = (law_c57 G m rel x B big).den := by kernel_rfl
theorem ints_app (a b : List Nat) : ints (a ++ b) = ints a ++ ints b := by simp [ints]
theorem bit_of {v i : Nat} (hv : v < 18446744073709551616) (hi : i < 64) : IntKind.wrap IntKind.u8 (bitI BinOp.and IntKind.u64 (shrI IntKind.u64 (v : Int) (i : Int)) 1) = ((bt v i : Nat) : Int) := by
 have h1 : v / 2 ^ i <= v := Nat.div_le_self _ _
 have h2 := bt_lt v i
 rw [shrN, show min i IntKind.u64.bits = i by simp only [IntKind.bits]; omega, show (1 : Int) = ((1 : Nat) : Int) from rfl, andN rfl (by simp only [IntKind.bits]; omega) (by decide), and_one, wrId rfl]
 . rfl
 . simp only [IntKind.bits]; unfold bt at h2; omega
theorem ok_c54 (G : Gl) (x : XP × Nat × Nat) (h : c54.phi x) : cond_c54 G x := by
 unfold cond_c54
 obtain ⟨h1, h2, h3⟩ := h
 obtain ⟨⟨m, rel, b, y, B⟩, v, n⟩ := x
 dsimp only at h1 h2 h3 ⊢
 simp only [br_d, rel_self, rel_add, true_and, and_true, ints_len, List.length_append, nb_len, List.length_cons, List.length_nil]
 refine ⟨(0, y), Nat.zero_le _, rfl, ⟨rfl, rfl⟩, ⟨rfl, by simp [nb_zero]⟩, fun ⟨i, z⟩ hi => ⟨fun hlt => ?_, fun hge => ?_⟩⟩
 . dsimp only at hi hlt ⊢
   have h64 : i < 64 := by omega
   rw [bit_of h2 h64]
   refine ⟨by omega, fun _ => ⟨⟨by omega, by omega⟩, fun w => ⟨(i + 1, w), by dsimp only; omega, ?_, ⟨rfl, by dsimp only; omega⟩, rfl, ?_⟩⟩⟩
   . rw [wr64]; dsimp only; omega
   . dsimp only
     rw [nb_succ, <- List.append_assoc, ints_app _ [_]]; rfl
 . dsimp only at hi hge ⊢
   obtain rfl : i = n := by omega
   exact ⟨z, ⟨rfl, rfl⟩, rfl, rfl⟩
theorem ok_c55 (G : Gl) (m : Fz) (rel : Rel TT) (x : Value) (lens : List Nat) (v : Nat) (h : Good lens /\ v < 18446744073709551616) : cond_c55 G m rel x lens v := by
 unfold cond_c55
 obtain ⟨hg, hv⟩ := h
 have h60 := hg.sixty
 simp only [br_d, br_i, rel_self, true_and, and_true, inRange, inI64, Int.toNat_natCast, canonL_len]
 refine fun _ => ⟨0, ⟨Nat.zero_le _, Nat.zero_le _⟩, rfl, fun i hi => ⟨fun hlt => ⟨by omega, by omega, by omega, fun c hc => ?_⟩, fun hge => ?_⟩⟩
 . obtain ⟨k, hk, rfl⟩ := canonL_get hc
   have hw : IntKind.wrap IntKind.u64 ((i : Nat) : Int) = (i : Int) := wrId rfl (by simp only [IntKind.bits]; omega)
   dsimp only
   refine ⟨fun he => ⟨by omega, by omega, fun c' hc' => ?_⟩, fun hne => ⟨by omega, i + 1, ⟨⟨by omega, ?_⟩, by omega⟩, by omega⟩⟩
   . rw [hw] at he
     obtain rfl : i = v := by omega
     obtain rfl := Option.some.inj (hc.symm.trans hc')
     have e : lens.getD i 0 = k := by rw [List.getD_eq_getElem?_getD, hk]; rfl
     refine .inr ⟨(), by omega, rfl, rfl, ?_, ?_⟩
     . rw [e]
     . unfold codeV; rw [e]
   . rw [hw] at hne; omega
 . exact .inl ⟨(), Nat.le_trans (by omega : lens.length <= i) hi.2⟩
theorem ok_c56 (G : Gl) (m : Fz) (rel : Rel TT) (x : Value) (extra : List Nat) (v : Nat) (h : (∀ n ∈ extra, n <= 20) /\ extra.length <= 30 /\ v < 18446744073709551616) : cond_c56 G m rel x extra v := by
 unfold cond_c56
 obtain ⟨h20, h30, hv⟩ := h
 have hsum := fun i => sum2_le (extra.take i) fun a ha => h20 a (List.mem_of_mem_take ha)
 simp only [br_d, rel_self, true_and, and_true, inRange, inI64, Int.toNat_natCast, rgL_len]
 refine ⟨0, ⟨Nat.zero_le _, fun j hj => by omega⟩, rfl, fun i hi => ⟨fun hlt => ⟨by omega, by omega, by omega, fun c hc => ?_⟩, fun hge => ?_⟩⟩
 . obtain ⟨n, hn, rfl⟩ := rgL_sum hc
   have hi' : i < extra.length := by omega
   have hs := hsum i
   rw [List.length_take] at hs
   have hs' : sum2 (extra.take i) <= 30 * 2 ^ 20 := Nat.le_trans hs (Nat.mul_le_mul_right _ (by omega))
   have hn20 : n <= 20 := h20 n (List.mem_of_getElem? hn)
   have hp : 2 ^ n <= 2 ^ 20 := Nat.pow_le_pow_right (by decide) hn20
   have hnext := sum2_next hn
   have e0 : 0 + sum2 (extra.take i) = sum2 (extra.take i) := by omega
   have w1 : IntKind.wrap IntKind.u64 (((0 + sum2 (extra.take i) : Nat)) : Int) = ((sum2 (extra.take i) : Nat) : Int) := by rw [e0]; exact wrId rfl (by simp only [IntKind.bits]; omega)
   have w2 : shlI IntKind.u64 (1 : Int) (n : Int) = ((2 ^ n : Nat) : Int) := by
     rw [show (1 : Int) = ((1 : Nat) : Int) from rfl, shlN rfl, show min n IntKind.u64.bits = n by simp only [IntKind.bits]; omega, Nat.one_mul, Nat.mod_eq_of_lt (by simp only [IntKind.bits]; omega)]
   have w3 : IntKind.wrap IntKind.u64 (((sum2 (extra.take i) : Nat) : Int) + ((2 ^ n : Nat) : Int)) = ((sum2 (extra.take i) + 2 ^ n : Nat) : Int) := by
     rw [<- Int.natCast_add]; exact wrId rfl (by simp only [IntKind.bits]; omega)
   have w4 : IntKind.wrap IntKind.u64 (i : Int) = (i : Int) := wrId rfl (by simp only [IntKind.bits]; omega)
   dsimp only
   rw [w1]
   refine ⟨fun h1 => ⟨by omega, by omega, by omega, fun c1 hc1 => ⟨by omega, by omega, by omega, fun c2 hc2 => ?_⟩⟩, fun h1 => ⟨by omega, i + 1, ⟨⟨by omega, fun j hj => ?_⟩, by omega⟩, by omega⟩⟩
   . obtain rfl := Option.some.inj (hc.symm.trans hc1)
     obtain rfl := Option.some.inj (hc.symm.trans hc2)
     dsimp only
     rw [w1, w2, w3]
     refine ⟨by omega, fun h2 => .inr ⟨i, rgM_eq hi' (by omega) (by omega), w4⟩, fun h2 => ⟨by omega, i + 1, ⟨⟨by omega, fun j hj => ?_⟩, by omega⟩, by omega⟩⟩
     by_cases hji : j < i
     . exact hi.2 j hji
     . obtain rfl : j = i := by omega
       omega
   . by_cases hji : j < i
     . exact hi.2 j hji
     . obtain rfl : j = i := by omega
       omega
 . exact .inl ⟨(), rgM_none fun j hj => hi.2 j (by omega)⟩
theorem getD_take' (B : List Nat) (n j : Nat) : (B.take n).getD j 0 = if j < n then B.getD j 0 else 0 := by
 rw [List.getD_eq_getElem?_getD, List.getElem?_take]
 split
 . rw [List.getD_eq_getElem?_getD]
 . rfl
theorem pk_other {big : Bool} {B : List Nat} {i j : Nat} (h : j ≠ i / 8) : pkB big (B.take (i + 1)) j = pkB big (B.take i) j := by
 unfold pkB
 congr 1
 apply List.map_congr_left
 intro k hk
 have hk := List.mem_range.1 hk
 rw [getD_take', getD_take']
 have : 8 * j + (if big = true then 7 - k else k) ≠ i := by split <;> omega
 congr 1
 by_cases h1 : 8 * j + (if big = true then 7 - k else k) < i
 . rw [if_pos h1, if_pos (by omega)]
 . rw [if_neg h1, if_neg (by omega)]
theorem bt_bit {b : Nat} (h : b < 2) (k : Nat) : bt b k = if k = 0 then b else 0 := by
 by_cases hk : k = 0
 . subst hk; rw [if_pos rfl]; unfold bt; omega
 . rw [if_neg hk]; exact bt_over (n := 1) h (by omega)
theorem pk_at {big : Bool} {B : List Nat} {i b t : Nat} (hb : B[i]? = some b) (h2 : b < 2) (ht : t = if big = true then 7 - i % 8 else i % 8) : pkB big (B.take (i + 1)) (i / 8) = pkB big (B.take i) (i / 8) ||| (b * 2 ^ t % 2 ^ 8) := by
 refine eq_bt (n := 8) (pkB_lt _ _ _) (Nat.or_lt_two_pow (pkB_lt _ _ _) (Nat.mod_lt _ (by decide))) fun k hk => ?_
 rw [pkB_bt _ _ _ _ hk, bt_or, pkB_bt _ _ _ _ hk, bt_modp, if_pos hk, bt_shl, bt_bit h2, getD_take', getD_take']
 have hbi : B.getD i 0 = b := by rw [List.getD_eq_getElem?_getD, hb]; rfl
 by_cases h : k = t
 . have e : 8 * (i / 8) + (if big = true then 7 - k else k) = i := by subst h; rw [ht]; cases big <;> simp <;> omega
   rw [e, if_pos (by omega), if_neg (by omega), if_pos (by omega), if_pos (by omega), hbi]
   omega
 . have e : 8 * (i / 8) + (if big = true then 7 - k else k) ≠ i := by rw [ht] at h; cases big <;> simp at h ⊢ <;> omega
   have z : (if t <= k then (if k - t = 0 then b else 0) else 0) = 0 := by
     by_cases h3 : t <= k
     . rw [if_pos h3, if_neg (by omega)]
     . rw [if_neg h3]
   rw [z]
   by_cases h1 : 8 * (i / 8) + (if big = true then 7 - k else k) < i
   . rw [if_pos h1, if_pos (by omega)]; omega
   . rw [if_neg h1, if_neg (by omega)]; omega
theorem pk_set {big : Bool} {B : List Nat} {i b t m : Nat} (hb : B[i]? = some b) (h2 : b < 2) (ht : t = if big = true then 7 - i % 8 else i % 8) :
   (packL big (B.take i) m).set (i / 8) (pkB big (B.take i) (i / 8) ||| (b * 2 ^ t % 2 ^ 8)) = packL big (B.take (i + 1)) m := by
 apply List.ext_getElem?
 intro j
 rw [List.getElem?_set, packL_len]
 by_cases hj : i / 8 = j
 . rw [if_pos hj]
   by_cases hm : i / 8 < m
   . rw [if_pos hm, packL_get (by omega), <- hj, pk_at hb h2 ht]
   . rw [if_neg hm, List.getElem?_eq_none (by rw [packL_len]; omega)]
 . rw [if_neg hj]
   by_cases hm : j < m
   . rw [packL_get hm, packL_get hm, pk_other (by omega)]
   . rw [List.getElem?_eq_none (by rw [packL_len]; omega), List.getElem?_eq_none (by rw [packL_len]; omega)]
theorem packL_nil (big : Bool) (m : Nat) : packL big [] m = List.replicate m 0 := by
 apply List.ext_getElem?
 intro j
 by_cases hm : j < m
 . rw [packL_get hm, List.getElem?_replicate, if_pos hm]
   refine congrArg some (eq_bt (n := 8) (pkB_lt _ _ _) (by decide) fun k hk => ?_)
   exact (pkB_bt big [] j k hk).trans (bt_over (n := 0) (by decide) (Nat.zero_le _)).symm
 . rw [List.getElem?_eq_none (by rw [packL_len]; omega), List.getElem?_eq_none (by rw [List.length_replicate]; omega)]
theorem ok_c57 (G : Gl) (m : Fz) (rel : Rel TT) (x : Value) (B : List Nat) (big : Bool) (h : B.length <= 8000000 /\ ∀ b ∈ B, b < 2) : cond_c57 G m rel x B big := by
 unfold cond_c57
 obtain ⟨hl, h2⟩ := h
 have t1 : Int.tdiv ((B.length : Int) + 7) 8 = (((B.length + 7) / 8 : Nat) : Int) := by rw [Int.tdiv_eq_ediv_of_nonneg (by omega)]; omega
 have t2 : IntKind.i64.wrap (((B.length + 7) / 8 : Nat) : Int) = (((B.length + 7) / 8 : Nat) : Int) := wrI (by omega) (by omega)
 have u1 : ∀ i : Nat, Int.tdiv (i : Int) 8 = ((i / 8 : Nat) : Int) := fun i => by rw [Int.tdiv_eq_ediv_of_nonneg (by omega)]; omega
 have u2 : ∀ i : Nat, Int.tmod (i : Int) 8 = ((i % 8 : Nat) : Int) := fun i => by rw [Int.tmod_eq_emod_of_nonneg (by omega)]; omega
 simp only [br_d, rel_self, true_and, and_true, inRange, inI64, Int.toNat_natCast, ints_len, t1, t2, u1, u2, packL_len]
 refine ⟨by omega, by decide, ⟨by omega, by omega, by unfold room; omega⟩, fun y => ⟨0, Nat.zero_le _, rfl, ?_, fun i hi => ⟨fun hlt => ?_, fun hge => ?_⟩⟩⟩
 . rw [List.take_zero, packL_nil]; simp [ints]
 . have hi' : i < B.length := by omega
   have hbi : B[i]? = some B[i] := List.getElem?_eq_getElem hi'
   have hb2 := h2 _ (List.getElem_mem hi')
   have v1 : IntKind.i64.wrap ((i / 8 : Nat) : Int) = ((i / 8 : Nat) : Int) := wrI (by omega) (by omega)
   have v2 : IntKind.u64.wrap ((i % 8 : Nat) : Int) = ((i % 8 : Nat) : Int) := wrId rfl (by simp only [IntKind.bits]; omega)
   have v3 : IntKind.u64.wrap (7 - ((i % 8 : Nat) : Int)) = ((7 - i % 8 : Nat) : Int) := by rw [wr64]; omega
   have key : ∀ (t : Nat), (t = if big = true then 7 - i % 8 else i % 8) -> ∀ z w : Int, (ints (packL big (B.take i) ((B.length + 7) / 8)))[i / 8]? = some z -> (ints B)[i]? = some w ->
       (ints (packL big (B.take i) ((B.length + 7) / 8))).set (i / 8) (bitI BinOp.or IntKind.u8 z (shlI IntKind.u8 w (t : Int))) = ints (packL big (B.take (i + 1)) ((B.length + 7) / 8)) := by
     intro t ht z w hz hw
     obtain ⟨z', hz', rfl⟩ := ints_get hz
     obtain ⟨w', hw', rfl⟩ := ints_get hw
     rw [packL_get (by omega)] at hz'
     obtain rfl := Option.some.inj hz'
     obtain rfl := Option.some.inj (hbi.symm.trans hw')
     have ht8 : t <= 7 := by rw [ht]; split <;> omega
     rw [shlN rfl, show min t IntKind.u8.bits = t by simp only [IntKind.bits]; omega, orN rfl (pkB_lt _ _ _) (Nat.mod_lt _ (by decide))]
     rw [<- pk_set (m := (B.length + 7) / 8) hbi hb2 ht]
     simp [ints, IntKind.bits, List.map_set]
   simp only [v1, v2, v3, Int.toNat_natCast]
   refine ⟨by decide, br_mk (fun hb => ?_) (fun hb => ?_)⟩
   . exact ⟨by decide, by omega, by omega, fun z hz => ⟨by omega, by omega, fun w hw => ⟨by omega, by omega, by omega, by omega, i + 1, ⟨by omega, by omega⟩, by omega, key _ (by rw [hb]; rfl) z w hz hw⟩⟩⟩
   . exact ⟨by decide, by omega, by omega, fun z hz => ⟨by omega, by omega, fun w hw => ⟨by omega, by omega, by omega, by omega, i + 1, ⟨by omega, by omega⟩, by omega, key _ (by rw [hb]; rfl) z w hz hw⟩⟩⟩
 . obtain rfl : i = B.length := by omega
   rw [List.take_length]
   exact ⟨y, rfl, rfl, rfl⟩
theorem s54 (G : Gl) : SpecOK (CC G) 54 c54.pt := spec G (no_ok G) (fn := Tryz.f54) rfl NA c54 a54 fun x h => Met.of (eq_c54 G x) (ok_c54 G x h)
theorem s55 (G : Gl) : SpecOK (CC G) 55 c55.pt := spec G (no_ok G) (fn := Tryz.f55) rfl NA c55 (fun x => a55 x.2.2.2.1 x.2.2.2.2) fun ⟨m, rel, x, lens, v⟩ h => Met.of (eq_c55 G m rel x lens v) (ok_c55 G m rel x lens v h)
theorem s56 (G : Gl) : SpecOK (CC G) 56 c56.pt := spec G (no_ok G) (fn := Tryz.f56) rfl NA c56 (fun x => a56 x.2.2.2.1 x.2.2.2.2) fun ⟨m, rel, x, extra, v⟩ h => Met.of (eq_c56 G m rel x extra v) (ok_c56 G m rel x extra v h)
theorem s57 (G : Gl) : SpecOK (CC G) 57 c57.pt := specO G (no_ok G) (fn := Tryz.f57) rfl NA c57 (fun x => a57 x.2.2.2.1 x.2.2.2.2) fun ⟨m, rel, x, B, big⟩ h => Met.of (eq_c57 G m rel x B big) (ok_c57 G m rel x B big h)
end Pc
/-
 The reference's reading does what its contracts say (part 1).
-/
set_option linter.unusedVariables false
set_option maxRecDepth 100000
open Go Go.Vg Go.Proofs
namespace Pc
def cond_c48 (G : Gl) (m : Fz) (rel : Rel TT) (v : Value) (bs : List Nat) (big : Bool) : Prop :=
 ∃ x1 : Nat × Value, x1.1 <= List.length bs /\ (Value.slice none 0 0 = x1.2 /\ 0 = 8 * x1.1) /\ (0 : Int) = (x1.1 : Int) /\ m = m /\ relLe rel rel /\ (Value.slice none 0 0 = x1.2 /\ [] = ints (bitsOf big (List.take x1.1 bs))) /\ ∀ x2 : Nat × Value, (x2.1 <= List.length bs) -> Br (decide ((x2.1 : Int) < (↑(List.length (ints bs)) : Int))) (∃ x3 : Nat × Value, x3.1 <= 8 /\ (x2.2 = x3.2 /\ 8 * x2.1 = 8 * x2.1 + x3.1) /\ (0 : Int) = (x3.1 : Int) /\ m = m /\ relLe rel rel /\ (x2.2 = x3.2 /\ ints (bitsOf big (List.take x2.1 bs)) = ints (bitsOf big (List.take x2.1 bs) ++ List.take x3.1 (byteBits big (List.getD bs x2.1 0)))) /\ ∀ x4 : Nat × Value, (x4.1 <= 8) -> Br (decide ((x4.1 : Int) < (8 : Int))) (Br (big) (inRange (x2.1 : Int) (List.length (ints bs)) /\ x2.1 < List.length (ints bs) /\ ∀ x5 : Int, ((ints bs)[x2.1]? = some x5) -> (0 : Int) <= IntKind.wrap IntKind.u64 ((7 : Int) - (x4.1 : Int)) /\ ∀ x6 : Nat, (Rf x4.2 /\ 8 * x2.1 + x4.1 = List.length (ints (bitsOf big (List.take x2.1 bs) ++ List.take x4.1 (byteBits big (List.getD bs x2.1 0))))) /\ (Rf (Value.slice (some (Addr.mk x6 0 none)) 1 1) /\ 1 = List.length [bitI BinOp.and IntKind.u8 (shrI IntKind.u8 x5 (IntKind.wrap IntKind.u64 ((7 : Int) - (x4.1 : Int)))) (1 : Int)]) /\ room (List.length (ints (bitsOf big (List.take x2.1 bs) ++ List.take x4.1 (byteBits big (List.getD bs x2.1 0)))) + List.length [bitI BinOp.and IntKind.u8 (shrI IntKind.u8 x5 (IntKind.wrap IntKind.u64 ((7 : Int) - (x4.1 : Int)))) (1 : Int)]) 1 /\ ∀ x7 : Value, ∃ x8 : Nat × Value, (x8.1 <= 8 /\ 8 - x8.1 < 8 - x4.1) /\ (x7 = x8.2 /\ 8 * x2.1 + x4.1 + List.length [bitI BinOp.and IntKind.u8 (shrI IntKind.u8 x5 (IntKind.wrap IntKind.u64 ((7 : Int) - (x4.1 : Int)))) (1 : Int)] = 8 * x2.1 + x8.1) /\ IntKind.wrap IntKind.u64 ((x4.1 : Int) + (1 : Int)) = (x8.1 : Int) /\ m = m /\ relLe rel (relAdd rel 5 (Value.slice (some (Addr.mk x6 0 none)) 1 1) [bitI BinOp.and IntKind.u8 (shrI IntKind.u8 x5 (IntKind.wrap IntKind.u64 ((7 : Int) - (x4.1 : Int)))) (1 : Int)]) /\ (x7 = x8.2 /\ ints (bitsOf big (List.take x2.1 bs) ++ List.take x4.1 (byteBits big (List.getD bs x2.1 0))) ++ [bitI BinOp.and IntKind.u8 (shrI IntKind.u8 x5 (IntKind.wrap IntKind.u64 ((7 : Int) - (x4.1 : Int)))) (1 : Int)] = ints (bitsOf big (List.take x2.1 bs) ++ List.take x8.1 (byteBits big (List.getD bs x2.1 0)))) /\ True) (inRange (x2.1 : Int) (List.length (ints bs)) /\ x2.1 < List.length (ints bs) /\ ∀ x5 : Int, ((ints bs)[x2.1]? = some x5) -> (0 : Int) <= (x4.1 : Int) /\ ∀ x6 : Nat, (Rf x4.2 /\ 8 * x2.1 + x4.1 = List.length (ints (bitsOf big (List.take x2.1 bs) ++ List.take x4.1 (byteBits big (List.getD bs x2.1 0))))) /\ (Rf (Value.slice (some (Addr.mk x6 0 none)) 1 1) /\ 1 = List.length [bitI BinOp.and IntKind.u8 (shrI IntKind.u8 x5 (x4.1 : Int)) (1 : Int)]) /\ room (List.length (ints (bitsOf big (List.take x2.1 bs) ++ List.take x4.1 (byteBits big (List.getD bs x2.1 0)))) + List.length [bitI BinOp.and IntKind.u8 (shrI IntKind.u8 x5 (x4.1 : Int)) (1 : Int)]) 1 /\
 ∀ x7 : Value, ∃ x8 : Nat × Value, (x8.1 <= 8 /\ 8 - x8.1 < 8 - x4.1) /\ (x7 = x8.2 /\ 8 * x2.1 + x4.1 + List.length [bitI BinOp.and IntKind.u8 (shrI IntKind.u8 x5 (x4.1 : Int)) (1 : Int)] = 8 * x2.1 + x8.1) /\ IntKind.wrap IntKind.u64 ((x4.1 : Int) + (1 : Int)) = (x8.1 : Int) /\ m = m /\ relLe rel (relAdd rel 5 (Value.slice (some (Addr.mk x6 0 none)) 1 1) [bitI BinOp.and IntKind.u8 (shrI IntKind.u8 x5 (x4.1 : Int)) (1 : Int)]) /\ (x7 = x8.2 /\ ints (bitsOf big (List.take x2.1 bs) ++ List.take x4.1 (byteBits big (List.getD bs x2.1 0))) ++ [bitI BinOp.and IntKind.u8 (shrI IntKind.u8 x5 (x4.1 : Int)) (1 : Int)] = ints (bitsOf big (List.take x2.1 bs) ++ List.take x8.1 (byteBits big (List.getD bs x2.1 0)))) /\ True)) (inI64 ((x2.1 : Int) + (1 : Int)) /\ ∃ x5 : Nat × Value, (x5.1 <= List.length bs /\ List.length bs - x5.1 < List.length bs - x2.1) /\ (x4.2 = x5.2 /\ 8 * x2.1 + x4.1 = 8 * x5.1) /\ (x2.1 : Int) + (1 : Int) = (x5.1 : Int) /\ m = m /\ relLe rel rel /\ (x4.2 = x5.2 /\ ints (bitsOf big (List.take x2.1 bs) ++ List.take x4.1 (byteBits big (List.getD bs x2.1 0))) = ints (bitsOf big (List.take x5.1 bs))) /\ True)) ((Rf x2.2 /\ 8 * x2.1 = List.length (ints (bitsOf big (List.take x2.1 bs)))) /\ ∃ x3 : Value, True /\ (x2.2 = x3 /\ ints (bitsOf big (List.take x2.1 bs)) = ints (bitsOf big bs)) /\ m = m /\ relLe rel rel /\ True)
noncomputable def law_c48 (G : Gl) (m : Fz) (rel : Rel TT) (v : Value) (bs : List Nat) (big : Bool) : VCT := fnx (CC G) (IN G no NA) (a48 bs big) Tryz.f48 (c48.args (m, rel, v, bs, big)) (c48.H (m, rel, v, bs, big)) (outK true 2 (c48.ret (m, rel, v, bs, big))) (c48.pan (m, rel, v, bs, big))
theorem eq_c48 (G : Gl) (m : Fz) (rel : Rel TT) (v : Value) (bs : List Nat) (big : Bool) : cond_c48 G m rel v bs big = (law_c48 G m rel v bs big).den := by kernel_rfl
def cond_c49 (G : Gl) (m : Fz) (rel : Rel TT) (b : Nat) (v : Value) (B : List Nat) (n : Nat) : Prop :=
 (b = b) /\ Br (decide (IntKind.wrap IntKind.u64 (↑(List.length (ints B)) : Int) < (↑n : Int))) (((∃ x1 : Unit, List.length B < n /\ Rz /\ Rf false /\ m = m /\ relLe rel rel /\ b = b /\ (v = v /\ Rf (ints B)) /\ True) \/ (∃ x1 : Value, n <= List.length B /\ ((0 : Int) = (↑(numL (List.take n B)) : Int)) /\ false = true /\ m = m /\ relLe rel rel /\ b = b /\ (v = x1 /\ ints B = ints (List.drop n B)) /\ True))) (∃ x1 : Nat, x1 <= n /\ ((0 : Int) = (↑(numL (List.take x1 B)) : Int)) /\ (0 : Int) = (x1 : Int) /\ m = m /\ relLe rel rel /\ b = b /\ (v = v /\ Rf (ints B)) /\ ∀ x2 : Nat, (x2 <= n) -> Br (decide ((x2 : Int) < (↑n : Int))) (b = b /\ inRange (x2 : Int) (List.length (ints B)) /\ x2 < List.length (ints B) /\ ∀ x3 : Int, ((ints B)[x2]? = some x3) -> (0 : Int) <= (x2 : Int) /\ ∃ x4 : Nat, (x4 <= n /\ n - x4 < n - x2) /\ (bitI BinOp.or IntKind.u64 (↑(numL (List.take x2 B)) : Int) (shlI IntKind.u64 (IntKind.wrap IntKind.u64 x3) (x2 : Int)) = (↑(numL (List.take x4 B)) : Int)) /\ IntKind.wrap IntKind.u64 ((x2 : Int) + (1 : Int)) = (x4 : Int) /\ m = m /\ relLe rel rel /\ b = b /\ (v = v /\ Rf (ints B)) /\ True) (b = b /\ ((0 : Int) <= (↑n : Int) /\ (↑n : Int) <= (↑(List.length (ints B)) : Int) /\ (↑(List.length (ints B)) : Int) <= (↑(List.length (ints B)) : Int)) /\ b = b /\ ((∃ x3 : Unit, List.length B < n /\ ((↑(numL (List.take x2 B)) : Int) = (0 : Int)) /\ true = false /\ m = m /\ relLe rel (noteS (SV.segs (SV.ro 5 (sliceVal v (Int.toNat (↑n : Int)) ((List.length (ints B))) 1) (List.drop (Int.toNat (↑n : Int)) (List.take ((List.length (ints B))) (ints B))))) rel) /\ b = b /\ (sliceVal v (Int.toNat (↑n : Int)) ((List.length (ints B))) 1 = v /\ List.drop (Int.toNat (↑n : Int)) (List.take ((List.length (ints B))) (ints B)) = ints B) /\ True) \/ (∃ x3 : Value, n <= List.length B /\ ((↑(numL (List.take x2 B)) : Int) = (↑(numL (List.take n B)) : Int)) /\ Rf true /\ m = m /\ relLe rel (noteS (SV.segs (SV.ro 5 (sliceVal v (Int.toNat (↑n : Int)) ((List.length (ints B))) 1) (List.drop (Int.toNat (↑n : Int)) (List.take ((List.length (ints B))) (ints B))))) rel) /\ b = b /\ (sliceVal v (Int.toNat (↑n : Int)) ((List.length (ints B))) 1 = x3 /\ List.drop (Int.toNat (↑n : Int)) (List.take ((List.length (ints B))) (ints B)) = ints (List.drop n B)) /\ True))))
noncomputable def law_c49 (G : Gl) (m : Fz) (rel : Rel TT) (b : Nat) (v : Value) (B : List Nat) (n : Nat) : VCT := fnx (CC G) (IN G no NA) (a49 B n) Tryz.f49 (c49.args (⟨m, rel, b, v, B⟩, n)) (c49.H (⟨m, rel, b, v, B⟩, n)) (outK true 3 (c49.ret (⟨m, rel, b, v, B⟩, n))) (c49.pan (⟨m, rel, b, v, B⟩, n))
theorem eq_c49 (G : Gl) (m : Fz) (rel : Rel TT) (b : Nat) (v : Value) (B : List Nat) (n : Nat) : cond_c49 G m rel b v B n = (law_c49 G m rel b v B n).den := by kernel_rfl
def cond_c50 (G : Gl) (m : Fz) (rel : Rel TT) (b : Nat) (v : Value) (B : List Nat) (y : Value) (lens : List Nat) : Prop :=
 ∃ x1 : Nat, ((1 : Nat) <= x1 /\ x1 <= 21 /\ x1 <= List.length B + 1 /\ x1 <= cl lens (numL B)) /\ ((0 : Int) = (↑(numL (List.take (x1 - 1) B)) : Int)) /\ (1 : Int) = (x1 : Int) /\ m = m /\ relLe rel rel /\ b = b /\ (v = v /\ Rf (ints B)) /\ ∀ x2 : Nat, ((1 : Nat) <= x2 /\ x2 <= 21 /\ x2 <= List.length B + 1 /\ x2 <= cl lens (numL B)) -> Br (decide ((x2 : Int) <= (20 : Int))) (inI64 (x2 : Int) /\ b = b /\ Br (decide ((x2 : Int) <= (↑(List.length (ints B)) : Int))) (b = b /\ inRange (IntKind.wrap IntKind.u32 ((x2 : Int) - (1 : Int))) (List.length (ints B)) /\ Int.toNat (IntKind.wrap IntKind.u32 ((x2 : Int) - (1 : Int))) < List.length (ints B) /\ ∀ x3 : Int, ((ints B)[Int.toNat (IntKind.wrap IntKind.u32 ((x2 : Int) - (1 : Int)))]? = some x3) -> (0 : Int) <= IntKind.wrap IntKind.u32 ((x2 : Int) - (1 : Int)) /\ ∃ x4 : Nat, (x4 <= List.length lens /\ (cl lens (numL B) = x2 -> x4 <= cd lens (numL B))) /\ (0 : Int) = (x4 : Int) /\ m = m /\ relLe rel rel /\ b = b /\ (v = v /\ Rf (ints B)) /\ ∀ x5 : Nat, (x5 <= List.length lens /\ (cl lens (numL B) = x2 -> x5 <= cd lens (numL B))) -> Br (decide ((x5 : Int) < (↑(List.length (canonL lens)) : Int))) (inRange (x5 : Int) (List.length (canonL lens)) /\ x5 < List.length (canonL lens) /\ x5 < List.length (canonL lens) /\ ∀ x6 : Cd, ((canonL lens)[x5]? = some x6) -> Br (x6.len == (x2 : Int)) (inRange (x5 : Int) (List.length (canonL lens)) /\ x5 < List.length (canonL lens) /\ x5 < List.length (canonL lens) /\ ∀ x7 : Cd, ((canonL lens)[x5]? = some x7) -> Br (x7.val == bitI BinOp.or IntKind.u32 (↑(numL (List.take (x2 - 1) B)) : Int) (shlI IntKind.u32 (IntKind.wrap IntKind.u32 x3) (IntKind.wrap IntKind.u32 ((x2 : Int) - (1 : Int))))) (b = b /\ ((0 : Int) <= (x2 : Int) /\ (x2 : Int) <= (↑(List.length (ints B)) : Int) /\ (↑(List.length (ints B)) : Int) <= (↑(List.length (ints B)) : Int)) /\ b = b /\ inRange (x5 : Int) (List.length (canonL lens)) /\ x5 < List.length (canonL lens) /\ x5 < List.length (canonL lens) /\ ∀ x8 : Cd, ((canonL lens)[x5]? = some x8) -> ((∃ x9 : Unit, symM lens B = none /\ IntKind.wrap IntKind.u64 x8.sym = (0 : Int) /\ true = false /\ m = m /\ relLe rel (noteS (SV.segs (SV.ro 5 (sliceVal v x2 ((List.length (ints B))) 1) (List.drop x2 (List.take ((List.length (ints B))) (ints B))))) rel) /\ b = b /\ (sliceVal v x2 ((List.length (ints B))) 1 = v /\ List.drop x2 (List.take ((List.length (ints B))) (ints B)) = ints B) /\ True) \/ (∃ x9 : Value, symM lens B = some (cd lens (numL B)) /\ (IntKind.wrap IntKind.u64 x8.sym = (↑(cd lens (numL B)) : Int)) /\ Rf true /\ m = m /\ relLe rel (noteS (SV.segs (SV.ro 5 (sliceVal v x2 ((List.length (ints B))) 1) (List.drop x2 (List.take ((List.length (ints B))) (ints B))))) rel) /\ b = b /\ (sliceVal v x2 ((List.length (ints B))) 1 = x9 /\ List.drop x2 (List.take ((List.length (ints B))) (ints B)) = ints (List.drop (cl lens (numL B)) B)) /\ True))) (inI64 ((x5 : Int) + (1 : Int)) /\ ∃ x8 : Nat, ((x8 <= List.length lens /\ (cl lens (numL B) = x2 -> x8 <= cd lens (numL B))) /\ List.length lens - x8 < List.length lens - x5) /\
 (x5 : Int) + (1 : Int) = (x8 : Int) /\ m = m /\ relLe rel rel /\ b = b /\ (v = v /\ Rf (ints B)) /\ True)) (inI64 ((x5 : Int) + (1 : Int)) /\ ∃ x7 : Nat, ((x7 <= List.length lens /\ (cl lens (numL B) = x2 -> x7 <= cd lens (numL B))) /\ List.length lens - x7 < List.length lens - x5) /\ (x5 : Int) + (1 : Int) = (x7 : Int) /\ m = m /\ relLe rel rel /\ b = b /\ (v = v /\ Rf (ints B)) /\ True)) (∃ x6 : Nat, (((1 : Nat) <= x6 /\ x6 <= 21 /\ x6 <= List.length B + 1 /\ x6 <= cl lens (numL B)) /\ 21 - x6 < 21 - x2) /\ (bitI BinOp.or IntKind.u32 (↑(numL (List.take (x2 - 1) B)) : Int) (shlI IntKind.u32 (IntKind.wrap IntKind.u32 x3) (IntKind.wrap IntKind.u32 ((x2 : Int) - (1 : Int)))) = (↑(numL (List.take (x6 - 1) B)) : Int)) /\ IntKind.wrap IntKind.u32 ((x2 : Int) + (1 : Int)) = (x6 : Int) /\ m = m /\ relLe rel rel /\ b = b /\ (v = v /\ Rf (ints B)) /\ True)) (((∃ x3 : Unit, symM lens B = none /\ Rz /\ Rf false /\ m = m /\ relLe rel rel /\ b = b /\ (v = v /\ Rf (ints B)) /\ True) \/ (∃ x3 : Value, symM lens B = some (cd lens (numL B)) /\ ((0 : Int) = (↑(cd lens (numL B)) : Int)) /\ false = true /\ m = m /\ relLe rel rel /\ b = b /\ (v = x3 /\ ints B = ints (List.drop (cl lens (numL B)) B)) /\ True)))) (((∃ x3 : Unit, symM lens B = none /\ Rz /\ Rf false /\ m = m /\ relLe rel rel /\ b = b /\ (v = v /\ Rf (ints B)) /\ True) \/ (∃ x3 : Value, symM lens B = some (cd lens (numL B)) /\ ((0 : Int) = (↑(cd lens (numL B)) : Int)) /\ false = true /\ m = m /\ relLe rel rel /\ b = b /\ (v = x3 /\ ints B = ints (List.drop (cl lens (numL B)) B)) /\ True)))
noncomputable def law_c50 (G : Gl) (m : Fz) (rel : Rel TT) (b : Nat) (v : Value) (B : List Nat) (y : Value) (lens : List Nat) : VCT := fnx (CC G) (IN G no NA) (a50 B lens) Tryz.f50 (c50.args (⟨m, rel, b, v, B⟩, y, lens)) (c50.H (⟨m, rel, b, v, B⟩, y, lens)) (outK true 3 (c50.ret (⟨m, rel, b, v, B⟩, y, lens))) (c50.pan (⟨m, rel, b, v, B⟩, y, lens))
theorem eq_c50 (G : Gl) (m : Fz) (rel : Rel TT) (b : Nat) (v : Value) (B : List Nat) (y : Value) (lens : List Nat) : cond_c50 G m rel b v B y lens = (law_c50 G m rel b v B y lens).den := by kernel_rfl
theorem ok_c48 (G : Gl) (m : Fz) (rel : Rel TT) (v : Value) (bs : List Nat) (big : Bool) (hb : ∀ n ∈ bs, n < 256) (hl : bs.length <= 1000000) : cond_c48 G m rel v bs big := by
 unfold cond_c48
 simp only [br_d, rel_self, rel_add, true_and, and_true, inRange, inI64, Int.toNat_natCast, ints_len]
 refine ⟨(0, .slice none 0 0), Nat.zero_le _, ⟨rfl, rfl⟩, rfl, ⟨rfl, rfl⟩, fun x hx => ⟨fun h1 => ⟨(0, x.2), Nat.zero_le _, ⟨rfl, rfl⟩, rfl, ⟨rfl, ?_⟩, fun y hy => ⟨fun h2 => ?_, fun h2 => ⟨by omega, (x.1 + 1, y.2), by dsimp only; omega, ⟨rfl, by dsimp only; omega⟩, rfl, rfl, ?_⟩⟩⟩, fun h1 => ⟨?_, x.2, rfl, ?_⟩⟩⟩
 . simp
 . have hlt : x.1 < bs.length := by omega
   have hn : bs[x.1]? = some (bs.getD x.1 0) := by rw [List.getD_eq_getElem?_getD, List.getElem?_eq_getElem hlt]; rfl
   have h256 := hb _ (getD_mem hlt)
   have hk : (ints bs)[x.1]? = some ((bs.getD x.1 0 : Nat) : Int) := by unfold ints; rw [List.getElem?_map, hn]; rfl
   generalize bs.getD x.1 0 = c at *
   have hw : IntKind.u64.wrap (7 - (y.1 : Int)) = ((7 - y.1 : Nat) : Int) := by rw [wr64]; omega
   have bit : ∀ k : Nat, k < 8 -> bitI BinOp.and IntKind.u8 (shrI IntKind.u8 (c : Int) (k : Int)) 1 = ((bt c k : Nat) : Int) := by
     intro k hk
     rw [shrN, show (1 : Int) = ((1 : Nat) : Int) from rfl, andN rfl _ (by decide), and_one, show min k IntKind.u8.bits = k by simp only [IntKind.bits]; omega]
     . rfl
     . exact Nat.lt_of_le_of_lt (Nat.div_le_self _ _) h256
   have step : ∀ k : Nat, k = (if big = true then 7 - y.1 else y.1) -> ints (bitsOf big (List.take x.1 bs) ++ List.take y.1 (byteBits big c)) ++ [((bt c k : Nat) : Int)] = ints (bitsOf big (List.take x.1 bs) ++ List.take (y.1 + 1) (byteBits big c)) := by
     intro k hk
     have : (byteBits big c)[y.1]? = some (bt c k) := by
       unfold byteBits
       rw [List.getElem?_map, List.getElem?_range (by omega), hk]; rfl
     rw [take_succ this]
     simp [ints]
   have len : 8 * x.1 + y.1 = (bitsOf big (List.take x.1 bs) ++ List.take y.1 (byteBits big c)).length := by
     rw [List.length_append, bitsOf_len, List.length_take, List.length_take, byteBits_len]; omega
   simp only [hk, Option.some.injEq, forall_eq', hw, bit (7 - y.1) (by omega), bit y.1 (by omega), <- len, List.length_singleton, room]
   refine br_mk (fun hbig => ?_) (fun hbig => ?_)
   . refine ⟨by omega, by omega, by omega, fun b => ⟨trivial, trivial, by omega, fun z => ⟨(y.1 + 1, z), by dsimp only; omega, ⟨rfl, rfl⟩, ?_, rfl, ?_⟩⟩⟩
     . rw [wr64]; dsimp only; omega
     . exact step _ (by rw [hbig]; rfl)
   . refine ⟨by omega, by omega, by omega, fun b => ⟨trivial, trivial, by omega, fun z => ⟨(y.1 + 1, z), by dsimp only; omega, ⟨rfl, rfl⟩, ?_, rfl, ?_⟩⟩⟩
     . rw [wr64]; dsimp only; omega
     . exact step _ (by rw [hbig]; rfl)
 . have hlt : x.1 < bs.length := by omega
   have hn : bs[x.1]? = some (bs.getD x.1 0) := by rw [List.getD_eq_getElem?_getD, List.getElem?_eq_getElem hlt]; rfl
   have h8 : List.take y.1 (byteBits big (bs.getD x.1 0)) = byteBits big (bs.getD x.1 0) := List.take_of_length_le (by rw [byteBits_len]; omega)
   rw [take_succ hn, bitsOf_app, bitsOf_cons, h8]
   simp [bitsOf]
 . rw [bitsOf_len, List.length_take]; omega
 . rw [show x.1 = bs.length by omega, List.take_length]
theorem ok_c49 (G : Gl) (m : Fz) (rel : Rel TT) (b : Nat) (v : Value) (B : List Nat) (n : Nat) (hB : ∀ b ∈ B, b < 2) (hl : B.length <= 8000000) (hn : n <= 64) : cond_c49 G m rel b v B n := by
 unfold cond_c49
 have e1 : IntKind.u64.wrap ((B.length : Nat) : Int) = (B.length : Int) := wrId rfl (by simp only [IntKind.bits]; omega)
 simp only [br_d, rel_self, true_and, and_true, inRange, Int.toNat_natCast, ints_len, e1]
 refine ⟨fun h => .inl ⟨(), by omega⟩, fun h => ⟨0, by omega, rfl, rfl, fun i hi => ⟨fun h1 => ⟨by omega, by omega, fun x hx => ?_⟩, fun h1 => ⟨by omega, .inr ⟨_, by omega, ?_, ?_, rfl, ?_⟩⟩⟩⟩⟩
 . obtain ⟨c, hc, rfl⟩ := ints_get hx
   have h2 := hB c (List.mem_of_getElem? hc)
   have h3 := numL_lt (B := B.take i) fun b hb => hB b (List.mem_of_mem_take hb)
   rw [List.length_take, Nat.min_eq_left (by omega)] at h3
   have h4 : (2 : Nat) ^ i <= 2 ^ 63 := Nat.pow_le_pow_right (by decide) (by omega)
   have h5 := numL_snoc hc
   have h6 : c * 2 ^ i <= 2 ^ 63 := by rcases (show c = 0 \/ c = 1 by omega) with rfl | rfl <;> omega
   refine ⟨by omega, i + 1, by omega, ?_, ?_⟩
   . rw [wrId rfl (by simp only [IntKind.bits]; omega), shlN rfl, show min i IntKind.u64.bits = i by simp only [IntKind.bits]; omega, Nat.mod_eq_of_lt (by simp only [IntKind.bits]; omega), orN rfl (by simp only [IntKind.bits]; omega) (by simp only [IntKind.bits]; omega), or_add h3, h5]
   . rw [wr64]; omega
 . rw [show i = n by omega]
 . exact noteS_le _ _
 . rw [<- ints_len B]; exact ints_drop B n
theorem ok_c50 (G : Gl) (m : Fz) (rel : Rel TT) (b : Nat) (v : Value) (B : List Nat) (y : Value) (lens : List Nat) (hB : ∀ b ∈ B, b < 2) (hl : B.length <= 8000000) (hg : Good lens) : cond_c50 G m rel b v B y lens := by
 unfold cond_c50
 simp only [br_d, br_i, rel_self, true_and, and_true, inRange, inI64, Int.toNat_natCast, ints_len, canonL_len]
 have h60 := hg.sixty
 have hcl := cl_pos hg (numL B)
 have hcd := cd_hit hg (numL B)
 refine ⟨1, by omega, rfl, rfl, fun n hn => ⟨fun h1 => ⟨by omega, fun h2 => ?_, fun h2 => .inl ⟨(), ?_⟩⟩, fun h1 => .inl ⟨(), ?_⟩⟩⟩
 . have e1 : IntKind.u32.wrap ((n : Int) - 1) = ((n - 1 : Nat) : Int) := by rw [wr32]; omega
   simp only [e1, Int.toNat_natCast]
   refine ⟨by omega, by omega, fun x hx => ⟨by omega, 0, ⟨by omega, by omega⟩, rfl, fun i hi => ?_⟩⟩
   obtain ⟨c, hc, rfl⟩ := ints_get hx
   have h2c := hB c (List.mem_of_getElem? hc)
   have h3 := numL_lt (B := B.take (n - 1)) fun b hb => hB b (List.mem_of_mem_take hb)
   rw [List.length_take, Nat.min_eq_left (by omega)] at h3
   have h4 : (2 : Nat) ^ (n - 1) <= 2 ^ 19 := Nat.pow_le_pow_right (by decide) (by omega)
   have h5 := numL_snoc hc
   have h6 : c * 2 ^ (n - 1) <= 2 ^ 19 := by rcases (show c = 0 \/ c = 1 by omega) with rfl | rfl <;> omega
   rw [show n - 1 + 1 = n by omega] at h5
   have e2 : bitI BinOp.or IntKind.u32 ((numL (List.take (n - 1) B) : Nat) : Int) (shlI IntKind.u32 (IntKind.u32.wrap (c : Int)) ((n - 1 : Nat) : Int)) = ((numL (B.take n) : Nat) : Int) := by
     rw [wrId rfl (by simp only [IntKind.bits]; omega), shlN rfl, show min (n - 1) IntKind.u32.bits = n - 1 by simp only [IntKind.bits]; omega, Nat.mod_eq_of_lt (by simp only [IntKind.bits]; omega), orN rfl (by simp only [IntKind.bits]; omega) (by simp only [IntKind.bits]; omega), or_add h3, h5]
   simp only [e2]
   refine ⟨fun hi1 => ⟨by omega, by omega, by omega, fun d hd => ?_⟩, fun hi1 => ⟨n + 1, ⟨⟨by omega, by omega, by omega, ?_⟩, by omega⟩, ?_, ?_⟩⟩
   . obtain ⟨k, hk, rfl⟩ := canonL_get hd
     have hkd : lens.getD i 0 = k := by rw [List.getD_eq_getElem?_getD, hk]; rfl
     simp only [hd, Option.some.injEq, forall_eq']
     have other : (cl lens (numL B) = n -> i ≠ cd lens (numL B)) -> ∃ x7 : Nat, ((x7 <= lens.length /\ (cl lens (numL B) = n -> x7 <= cd lens (numL B))) /\ lens.length - x7 < lens.length - i) /\ (i : Int) + 1 = (x7 : Int) := fun h => ⟨i + 1, by omega, rfl⟩
     refine ⟨fun hkn => ⟨by omega, by omega, by omega, fun hv => ⟨by omega, by omega, by omega, by omega, .inr ?_⟩, fun hv => ⟨by omega, other fun h7 h8 => hv ?_⟩⟩, fun hkn => ⟨by omega, other fun h7 h8 => hkn ?_⟩⟩
     . have hkn : k = n := by omega
       subst hkn
       have hit : hit lens (numL B) i := by
         unfold Pc.hit
         rw [hkd, <- numL_take hB (by omega)]
         omega
       have hci := cd_eq hg (by omega) hit
       have hcl2 : cl lens (numL B) = k := by unfold cl; rw [hci, hkd]
       refine ⟨_, ?_, ?_, noteS_le _ _, rfl, ?_⟩
       . unfold symM; rw [if_pos (by omega)]
       . rw [hci]; exact wrId rfl (by simp only [IntKind.bits]; omega)
       . rw [hcl2, <- ints_len B]; exact ints_drop B k
     . have hkn : k = n := by omega
       subst hkn
       have := hcd.2
       rw [<- h8] at this
       unfold Pc.hit at this
       rw [hkd, <- numL_take hB (by omega)] at this
       rw [this]
     . have : cl lens (numL B) = lens.getD i 0 := by unfold cl; rw [h8]
       omega
   . have := hi.2
     omega
   . rw [show n + 1 - 1 = n by omega]
   . rw [wr32]; omega
 . unfold symM; rw [if_neg (by omega)]
 . omega
theorem s48 (G : Gl) : SpecOK (CC G) 48 c48.pt := spec G (no_ok G) (fn := Tryz.f48) rfl NA c48 (fun x => a48 x.2.2.2.1 x.2.2.2.2) fun ⟨m, rel, v, bs, big⟩ h => Met.of (eq_c48 G m rel v bs big) (ok_c48 G m rel v bs big h.1 h.2)
theorem s49 (G : Gl) : SpecOK (CC G) 49 c49.pt := spec G (no_ok G) (fn := Tryz.f49) rfl NA c49 (fun x => a49 x.1.B x.2) fun ⟨⟨m, rel, b, v, B⟩, n⟩ h => Met.of (eq_c49 G m rel b v B n) (ok_c49 G m rel b v B n h.1 h.2.1 h.2.2)
theorem s50 (G : Gl) : SpecOK (CC G) 50 c50.pt := spec G (no_ok G) (fn := Tryz.f50) rfl NA c50 (fun x => a50 x.1.B x.2.2) fun ⟨⟨m, rel, b, v, B⟩, y, lens⟩ h => Met.of (eq_c50 G m rel b v B y lens) (ok_c50 G m rel b v B y lens h.1 h.2.1 h.2.2)
end Pc
/-
 The reference's writing.
-/
set_option linter.unusedVariables false
set_option maxRecDepth 100000
open Go Go.Vg Go.Proofs
namespace Pc
def cond_c24 (G : Gl) (ss : List (List Nat)) (x : XW) : Prop :=
 ∀ x1 : Nat, ∃ x2 : Y24, ph24 ss x x2 /\ (0 : Int) = (x2.i : Int) /\ x.m = x.m /\ Rl x.rel /\ x1 = x1 /\ (Value.slice none 0 0 = x2.y /\ 0 = x2.B.length) /\ (Value.slice none 0 0 = x2.y /\ [] = ints x2.B) /\ ∀ x3 : Y24, ((ph24 ss x x3) -> Br (decide ((x3.i : Int) < (x.l.length : Int))) (inRange (x3.i : Int) x.l.length /\ x3.i < x.l.length /\ ∀ x4 : Pt, ((x.l[x3.i]? = some x4) -> ∀ x5 : Nat, x5 = x5 /\ x5 = x5 /\ Br (x4.kind == (0 : Int)) (x5 = x5 /\ x5 = x5 /\ (0 : Int) <= x4.n /\ Br (shrI IntKind.u64 x4.v x4.n != (0 : Int)) (((∃ x6 : Rel TT, (relLe x.rel x6 /\ XW.run ss x = none) /\ Rn /\ Rz /\ Rf false /\ x.m = x.m /\ relLe x6 (relAdd x.rel 5 x3.y (ints x3.B)) /\ True) \/ (∃ x6 : YW, psW ss x x6 /\ (Rn /\ Value.slice none 0 0 = x6.y /\ ints (packL x.big x6.B ((x6.B.length + 7) / 8)) = []) /\ (0 : Int) = (x6.B.length : Int) /\ false = true /\ x.m = x.m /\ relLe x6.rel (relAdd x.rel 5 x3.y (ints x3.B)) /\ True))) (x5 = x5 /\ x5 = x5 /\ ∀ x6 : Fz, (List.length (nats (ints x3.B)) <= 8000000 /\ x4.v.toNat < 18446744073709551616 /\ x4.n.toNat <= 64) /\ (x1 = x1 /\ Ro) /\ x4.v = (x4.v.toNat : Int) /\ x4.n = (x4.n.toNat : Int) /\ x6 = x6 /\ Rl x.rel /\ x1 = x1 /\ (Rf x3.y /\ x3.B.length = List.length (nats (ints x3.B))) /\ (Rf x3.y /\ ints x3.B = ints (nats (ints x3.B))) /\ ∀ x7 : Value, (True -> x6 = x6 /\ inI64 ((x3.i : Int) + (1 : Int)) /\ ∃ x8 : Y24, (ph24 ss x x8 /\ x.l.length - x8.i < x.l.length - x3.i) /\ (x3.i : Int) + (1 : Int) = (x8.i : Int) /\ x.m = x.m /\ Rl x.rel /\ x1 = x1 /\ (x7 = x8.y /\ List.length (nats (ints x3.B) ++ nb x4.v.toNat x4.n.toNat) = x8.B.length) /\ (x7 = x8.y /\ ints (nats (ints x3.B) ++ nb x4.v.toNat x4.n.toNat) = ints x8.B) /\ True))) (Br (x4.kind == (1 : Int)) (x5 = x5 /\ ∀ x6 : Fz, (Good (lensOf (canonL x.lens)) /\ x4.v.toNat < 18446744073709551616) /\ (Rf x.vc /\ canonL x.lens = canonL (lensOf (canonL x.lens))) /\ x4.v = (x4.v.toNat : Int) /\ x6 = x6 /\ Rl x.rel /\ (∀ x7 : Unit, ((List.length (lensOf (canonL x.lens)) <= x4.v.toNat) -> x6 = x6 /\ ∀ x8 : Nat, x8 = x8 /\ ((∃ x9 : Rel TT, (relLe x.rel x9 /\ XW.run ss x = none) /\ Rn /\ Rz /\ Rf false /\ x.m = x.m /\ relLe x9 (relAdd x.rel 5 x3.y (ints x3.B)) /\ True) \/ (∃ x9 : YW, psW ss x x9 /\ (Rn /\ Value.slice none 0 0 = x9.y /\ ints (packL x.big x9.B ((x9.B.length + 7) / 8)) = []) /\ (0 : Int) = (x9.B.length : Int) /\ false = true /\ x.m = x.m /\ relLe x9.rel (relAdd x.rel 5 x3.y (ints x3.B)) /\ True)))) /\ (∀ x7 : Unit, ((x4.v.toNat < List.length (lensOf (canonL x.lens))) -> x6 = x6 /\ ∀ x8 : Nat, x8 = x8 /\ x8 = x8 /\ x8 = x8 /\ ∀ x9 : Fz, (List.length (nats (ints x3.B)) <= 8000000 /\ Int.toNat (IntKind.wrap IntKind.u64 (↑(codeV (lensOf (canonL x.lens)) x4.v.toNat) : Int)) < 18446744073709551616 /\ Int.toNat (IntKind.wrap IntKind.u64 (↑(List.getD (lensOf (canonL x.lens)) x4.v.toNat 0) : Int)) <= 64) /\ (x1 = x1 /\ Ro) /\ (IntKind.wrap IntKind.u64 (↑(codeV (lensOf (canonL x.lens)) x4.v.toNat) : Int) = (↑(Int.toNat (IntKind.wrap IntKind.u64 (↑(codeV (lensOf (canonL x.lens)) x4.v.toNat) : Int))) : Int)) /\
 (IntKind.wrap IntKind.u64 (↑(List.getD (lensOf (canonL x.lens)) x4.v.toNat 0) : Int) = (↑(Int.toNat (IntKind.wrap IntKind.u64 (↑(List.getD (lensOf (canonL x.lens)) x4.v.toNat 0) : Int))) : Int)) /\ x9 = x9 /\ Rl x.rel /\ x1 = x1 /\ (Rf x3.y /\ x3.B.length = List.length (nats (ints x3.B))) /\ (Rf x3.y /\ ints x3.B = ints (nats (ints x3.B))) /\ ∀ x10 : Value, (True -> x9 = x9 /\ inI64 ((x3.i : Int) + (1 : Int)) /\ ∃ x11 : Y24, (ph24 ss x x11 /\ x.l.length - x11.i < x.l.length - x3.i) /\ (x3.i : Int) + (1 : Int) = (x11.i : Int) /\ x.m = x.m /\ Rl x.rel /\ x1 = x1 /\ (x10 = x11.y /\ List.length (nats (ints x3.B) ++ nb (Int.toNat (IntKind.wrap IntKind.u64 (↑(codeV (lensOf (canonL x.lens)) x4.v.toNat) : Int))) (Int.toNat (IntKind.wrap IntKind.u64 (↑(List.getD (lensOf (canonL x.lens)) x4.v.toNat 0) : Int)))) = x11.B.length) /\ (x10 = x11.y /\ ints (nats (ints x3.B) ++ nb (Int.toNat (IntKind.wrap IntKind.u64 (↑(codeV (lensOf (canonL x.lens)) x4.v.toNat) : Int))) (Int.toNat (IntKind.wrap IntKind.u64 (↑(List.getD (lensOf (canonL x.lens)) x4.v.toNat 0) : Int)))) = ints x11.B) /\ True)))) (Br (x4.kind == (2 : Int)) (x5 = x5 /\ ∀ x6 : Fz, ((∀ (n : Nat), n ∈ Prod.fst (Prod.snd (Prod.snd (Prod.snd (x6, x.rel, x.vr, extraOf (rgL 0 x.extra), x4.v.toNat)))) -> n <= 20) /\ List.length (extraOf (rgL 0 x.extra)) <= 30 /\ x4.v.toNat < 18446744073709551616) /\ (Rf x.vr /\ rgL 0 x.extra = rgL 0 (extraOf (rgL 0 x.extra))) /\ x4.v = (x4.v.toNat : Int) /\ x6 = x6 /\ Rl x.rel /\ (∀ x7 : Unit, ((rgM (extraOf (rgL 0 x.extra)) x4.v.toNat = none) -> x6 = x6 /\ ((∃ x8 : Rel TT, (relLe x.rel x8 /\ XW.run ss x = none) /\ Rn /\ Rz /\ Rf false /\ x.m = x.m /\ relLe x8 (relAdd x.rel 5 x3.y (ints x3.B)) /\ True) \/ (∃ x8 : YW, psW ss x x8 /\ (Rn /\ Value.slice none 0 0 = x8.y /\ ints (packL x.big x8.B ((x8.B.length + 7) / 8)) = []) /\ (0 : Int) = (x8.B.length : Int) /\ false = true /\ x.m = x.m /\ relLe x8.rel (relAdd x.rel 5 x3.y (ints x3.B)) /\ True)))) /\ (∀ x7 : Nat, ((rgM (extraOf (rgL 0 x.extra)) x4.v.toNat = some x7) -> x6 = x6 /\ ∀ x8 : Fz, (Good (lensOf (canonL x.lens)) /\ x7 < 18446744073709551616) /\ (Rf x.vc /\ canonL x.lens = canonL (lensOf (canonL x.lens))) /\ Rf (x7 : Int) /\ x8 = x8 /\ Rl x.rel /\ (∀ x9 : Unit, ((List.length (lensOf (canonL x.lens)) <= x7) -> x8 = x8 /\ ∀ x10 : Nat, x10 = x10 /\ ((∃ x11 : Rel TT, (relLe x.rel x11 /\ XW.run ss x = none) /\ Rn /\ Rz /\ Rf false /\ x.m = x.m /\ relLe x11 (relAdd x.rel 5 x3.y (ints x3.B)) /\ True) \/ (∃ x11 : YW, psW ss x x11 /\ (Rn /\ Value.slice none 0 0 = x11.y /\ ints (packL x.big x11.B ((x11.B.length + 7) / 8)) = []) /\ (0 : Int) = (x11.B.length : Int) /\ false = true /\ x.m = x.m /\ relLe x11.rel (relAdd x.rel 5 x3.y (ints x3.B)) /\ True)))) /\ (∀ x9 : Unit, ((x7 < List.length (lensOf (canonL x.lens))) -> x8 = x8 /\
 ∀ x10 : Nat, x10 = x10 /\ x10 = x10 /\ x10 = x10 /\ ∀ x11 : Fz, (List.length (nats (ints x3.B)) <= 8000000 /\ Int.toNat (IntKind.wrap IntKind.u64 (↑(codeV (lensOf (canonL x.lens)) x7) : Int)) < 18446744073709551616 /\ Int.toNat (IntKind.wrap IntKind.u64 (↑(List.getD (lensOf (canonL x.lens)) x7 0) : Int)) <= 64) /\ (x1 = x1 /\ Ro) /\ (IntKind.wrap IntKind.u64 (↑(codeV (lensOf (canonL x.lens)) x7) : Int) = (↑(Int.toNat (IntKind.wrap IntKind.u64 (↑(codeV (lensOf (canonL x.lens)) x7) : Int))) : Int)) /\ (IntKind.wrap IntKind.u64 (↑(List.getD (lensOf (canonL x.lens)) x7 0) : Int) = (↑(Int.toNat (IntKind.wrap IntKind.u64 (↑(List.getD (lensOf (canonL x.lens)) x7 0) : Int))) : Int)) /\ x11 = x11 /\ Rl x.rel /\ x1 = x1 /\ (Rf x3.y /\ x3.B.length = List.length (nats (ints x3.B))) /\ (Rf x3.y /\ ints x3.B = ints (nats (ints x3.B))) /\ ∀ x12 : Value, (True -> x11 = x11 /\ x5 = x5 /\ inRange (x7 : Int) (List.length (rgL 0 x.extra)) /\ x7 < List.length (rgL 0 x.extra) /\ x7 < List.length (rgL 0 x.extra) /\ ∀ x13 : Rg, (((rgL 0 x.extra)[x7]? = some x13) -> inRange (x7 : Int) (List.length (rgL 0 x.extra)) /\ x7 < List.length (rgL 0 x.extra) /\ x7 < List.length (rgL 0 x.extra) /\ ∀ x14 : Rg, (((rgL 0 x.extra)[x7]? = some x14) -> ∀ x15 : Fz, (List.length (nats (ints (nats (ints x3.B) ++ nb (Int.toNat (IntKind.wrap IntKind.u64 (↑(codeV (lensOf (canonL x.lens)) x7) : Int))) (Int.toNat (IntKind.wrap IntKind.u64 (↑(List.getD (lensOf (canonL x.lens)) x7 0) : Int)))))) <= 8000000 /\ Int.toNat (IntKind.wrap IntKind.u64 (x4.v - IntKind.wrap IntKind.u64 x13.base)) < 18446744073709551616 /\ Int.toNat (IntKind.wrap IntKind.u64 x14.len) <= 64) /\ (x1 = x1 /\ Ro) /\ (IntKind.wrap IntKind.u64 (x4.v - IntKind.wrap IntKind.u64 x13.base) = (↑(Int.toNat (IntKind.wrap IntKind.u64 (x4.v - IntKind.wrap IntKind.u64 x13.base))) : Int)) /\ (IntKind.wrap IntKind.u64 x14.len = (↑(Int.toNat (IntKind.wrap IntKind.u64 x14.len)) : Int)) /\ x15 = x15 /\ Rl x.rel /\ x1 = x1 /\ (x12 = x12 /\ List.length (nats (ints x3.B) ++ nb (Int.toNat (IntKind.wrap IntKind.u64 (↑(codeV (lensOf (canonL x.lens)) x7) : Int))) (Int.toNat (IntKind.wrap IntKind.u64 (↑(List.getD (lensOf (canonL x.lens)) x7 0) : Int)))) = List.length (nats (ints (nats (ints x3.B) ++ nb (Int.toNat (IntKind.wrap IntKind.u64 (↑(codeV (lensOf (canonL x.lens)) x7) : Int))) (Int.toNat (IntKind.wrap IntKind.u64 (↑(List.getD (lensOf (canonL x.lens)) x7 0) : Int))))))) /\ (x12 = x12 /\ ints (nats (ints x3.B) ++ nb (Int.toNat (IntKind.wrap IntKind.u64 (↑(codeV (lensOf (canonL x.lens)) x7) : Int))) (Int.toNat (IntKind.wrap IntKind.u64 (↑(List.getD (lensOf (canonL x.lens)) x7 0) : Int)))) = ints (nats (ints (nats (ints x3.B) ++ nb (Int.toNat (IntKind.wrap IntKind.u64 (↑(codeV (lensOf (canonL x.lens)) x7) : Int))) (Int.toNat (IntKind.wrap IntKind.u64 (↑(List.getD (lensOf (canonL x.lens)) x7 0) : Int))))))) /\ ∀ x16 : Value, (True -> x15 = x15 /\ inI64 ((x3.i : Int) + (1 : Int)) /\ ∃ x17 : Y24, (ph24 ss x x17 /\ x.l.length - x17.i < x.l.length - x3.i) /\ (x3.i : Int) + (1 : Int) = (x17.i : Int) /\
 x.m = x.m /\ Rl x.rel /\ x1 = x1 /\ (x16 = x17.y /\ List.length (nats (ints (nats (ints x3.B) ++ nb (Int.toNat (IntKind.wrap IntKind.u64 (↑(codeV (lensOf (canonL x.lens)) x7) : Int))) (Int.toNat (IntKind.wrap IntKind.u64 (↑(List.getD (lensOf (canonL x.lens)) x7 0) : Int))))) ++ nb (Int.toNat (IntKind.wrap IntKind.u64 (x4.v - IntKind.wrap IntKind.u64 x13.base))) (Int.toNat (IntKind.wrap IntKind.u64 x14.len))) = x17.B.length) /\ (x16 = x17.y /\ ints (nats (ints (nats (ints x3.B) ++ nb (Int.toNat (IntKind.wrap IntKind.u64 (↑(codeV (lensOf (canonL x.lens)) x7) : Int))) (Int.toNat (IntKind.wrap IntKind.u64 (↑(List.getD (lensOf (canonL x.lens)) x7 0) : Int))))) ++ nb (Int.toNat (IntKind.wrap IntKind.u64 (x4.v - IntKind.wrap IntKind.u64 x13.base))) (Int.toNat (IntKind.wrap IntKind.u64 x14.len))) = ints x17.B) /\ True))))))))) (Br (x4.kind == (3 : Int)) (x1 = x1 /\ inI64 ((0 : Int) - (x3.B.length : Int)) /\ x5 = x5 /\ (0 : Int) <= IntKind.wrap IntKind.u64 (bitI BinOp.and IntKind.i64 ((0 : Int) - (x3.B.length : Int)) (7 : Int)) /\ Br (shrI IntKind.u64 x4.v (IntKind.wrap IntKind.u64 (bitI BinOp.and IntKind.i64 ((0 : Int) - (x3.B.length : Int)) (7 : Int))) != (0 : Int)) (((∃ x6 : Rel TT, (relLe x.rel x6 /\ XW.run ss x = none) /\ Rn /\ Rz /\ Rf false /\ x.m = x.m /\ relLe x6 (relAdd x.rel 5 x3.y (ints x3.B)) /\ True) \/ (∃ x6 : YW, psW ss x x6 /\ (Rn /\ Value.slice none 0 0 = x6.y /\ ints (packL x.big x6.B ((x6.B.length + 7) / 8)) = []) /\ (0 : Int) = (x6.B.length : Int) /\ false = true /\ x.m = x.m /\ relLe x6.rel (relAdd x.rel 5 x3.y (ints x3.B)) /\ True))) (x5 = x5 /\ ∀ x6 : Fz, (List.length (nats (ints x3.B)) <= 8000000 /\ x4.v.toNat < 18446744073709551616 /\ Int.toNat (IntKind.wrap IntKind.u64 (bitI BinOp.and IntKind.i64 ((0 : Int) - (x3.B.length : Int)) (7 : Int))) <= 64) /\ (x1 = x1 /\ Ro) /\ x4.v = (x4.v.toNat : Int) /\ (IntKind.wrap IntKind.u64 (bitI BinOp.and IntKind.i64 ((0 : Int) - (x3.B.length : Int)) (7 : Int)) = (↑(Int.toNat (IntKind.wrap IntKind.u64 (bitI BinOp.and IntKind.i64 ((0 : Int) - (x3.B.length : Int)) (7 : Int)))) : Int)) /\ x6 = x6 /\ Rl x.rel /\ x1 = x1 /\ (Rf x3.y /\ x3.B.length = List.length (nats (ints x3.B))) /\ (Rf x3.y /\ ints x3.B = ints (nats (ints x3.B))) /\ ∀ x7 : Value, (True -> x6 = x6 /\ inI64 ((x3.i : Int) + (1 : Int)) /\ ∃ x8 : Y24, (ph24 ss x x8 /\ x.l.length - x8.i < x.l.length - x3.i) /\ (x3.i : Int) + (1 : Int) = (x8.i : Int) /\ x.m = x.m /\ Rl x.rel /\ x1 = x1 /\ (x7 = x8.y /\ List.length (nats (ints x3.B) ++ nb x4.v.toNat (Int.toNat (IntKind.wrap IntKind.u64 (bitI BinOp.and IntKind.i64 ((0 : Int) - (x3.B.length : Int)) (7 : Int))))) = x8.B.length) /\ (x7 = x8.y /\ ints (nats (ints x3.B) ++ nb x4.v.toNat (Int.toNat (IntKind.wrap IntKind.u64 (bitI BinOp.and IntKind.i64 ((0 : Int) - (x3.B.length : Int)) (7 : Int))))) = ints x8.B) /\ True))) (Br (x4.kind == (4 : Int)) (x1 = x1 /\ (8 : Int) ≠ (0 : Int) /\ Br (Int.tmod (x3.B.length : Int) (8 : Int) != (0 : Int)) (((∃ x6 : Rel TT, (relLe x.rel x6 /\ XW.run ss x = none) /\ Rn /\ Rz /\
 Rf false /\ x.m = x.m /\ relLe x6 (relAdd x.rel 5 x3.y (ints x3.B)) /\ True) \/ (∃ x6 : YW, psW ss x x6 /\ (Rn /\ Value.slice none 0 0 = x6.y /\ ints (packL x.big x6.B ((x6.B.length + 7) / 8)) = []) /\ (0 : Int) = (x6.B.length : Int) /\ false = true /\ x.m = x.m /\ relLe x6.rel (relAdd x.rel 5 x3.y (ints x3.B)) /\ True))) (x1 = x1 /\ x5 = x5 /\ ∃ x6 : (List (Tys.El TT 5)), isRo x.rel 5 (Value.slice x4.s.A x4.s.n x4.s.cap) x6 /\ ((x4.s.n = x6.length) -> ∀ x7 : Fz, ((∀ (n : Nat), n ∈ Prod.fst (Prod.snd (Prod.snd (Prod.snd (x7, x.rel, Value.slice x4.s.A x4.s.n x4.s.cap, nats x6, x.big)))) -> n < 256) /\ List.length (nats x6) <= 1000000) /\ (Rf (Value.slice x4.s.A x4.s.n x4.s.cap) /\ x6 = ints (nats x6)) /\ Rf x.big /\ x7 = x7 /\ Rl x.rel /\ ∀ x8 : Value, (True -> x7 = x7 /\ x1 = x1 /\ Rf (SV.toV (T := TT) (SV.o 3 5 x3.y x3.B.length)) /\ (Rf x3.y /\ x3.B.length = List.length (ints x3.B)) /\ room (List.length (ints x3.B) + List.length (ints (bitsOf x.big (nats x6)))) 1 /\ ∀ x9 : Value, x1 = x1 /\ inI64 ((x3.i : Int) + (1 : Int)) /\ ∃ x10 : Y24, (ph24 ss x x10 /\ x.l.length - x10.i < x.l.length - x3.i) /\ (x3.i : Int) + (1 : Int) = (x10.i : Int) /\ x.m = x.m /\ Rl x.rel /\ x1 = x1 /\ (x9 = x10.y /\ x3.B.length + List.length (ints (bitsOf x.big (nats x6))) = x10.B.length) /\ (x9 = x10.y /\ ints x3.B ++ ints (bitsOf x.big (nats x6)) = ints x10.B) /\ True)))) (((∃ x6 : Rel TT, (relLe x.rel x6 /\ XW.run ss x = none) /\ Rn /\ Rz /\ Rf false /\ x.m = x.m /\ relLe x6 (relAdd x.rel 5 x3.y (ints x3.B)) /\ True) \/ (∃ x6 : YW, psW ss x x6 /\ (Rn /\ Value.slice none 0 0 = x6.y /\ ints (packL x.big x6.B ((x6.B.length + 7) / 8)) = []) /\ (0 : Int) = (x6.B.length : Int) /\ false = true /\ x.m = x.m /\ relLe x6.rel (relAdd x.rel 5 x3.y (ints x3.B)) /\ True))))))))) (x1 = x1 /\ x1 = x1 /\ (Rf x3.y /\ x3.B.length = List.length (ints x3.B)) /\ ∀ x4 : Fz, (List.length (nats (ints x3.B)) <= 8000000 /\ ∀ (b : Nat), b ∈ Prod.fst (Prod.snd (Prod.snd (Prod.snd (x4, x.rel, x3.y, nats (ints x3.B), x.big)))) -> b < 2) /\ (Rf x3.y /\ ints x3.B = ints (nats (ints x3.B))) /\ Rf x.big /\ x4 = x4 /\ Rl x.rel /\ ∀ x5 : Value, (True -> x4 = x4 /\ x1 = x1 /\ Rf (SV.toV (T := TT) (SV.o 3 5 x3.y x3.B.length)) /\ Rf (SV.toV (T := TT) (SV.v (Value.int IntKind.i64 (x3.B.length : Int)))) /\ (x5 = x5 /\ (List.length (nats (ints x3.B)) + 7) / 8 = List.length (ints (packL x.big (nats (ints x3.B)) ((List.length (nats (ints x3.B)) + 7) / 8)))) /\ ((∃ x6 : Rel TT, (relLe x.rel x6 /\ XW.run ss x = none) /\ False /- "match: values of two makes" -/) \/ (∃ x6 : YW, psW ss x x6 /\ (x5 = x6.y /\ ints (packL x.big (nats (ints x3.B)) ((List.length (nats (ints x3.B)) + 7) / 8)) = ints (packL x.big x6.B ((x6.B.length + 7) / 8))) /\ (x3.B.length : Int) = (x6.B.length : Int) /\ Rf true /\ x.m = x.m /\ relLe x6.rel (relAdd x.rel 5 x3.y (ints x3.B)) /\ True)))))
noncomputable def law_c24 (G : Gl) (ss : List (List Nat)) (x : XW) : VCT := fnx (CC G) (IN G b24 NA) (a24 ss x) Tryz.f24 ((c24 ss).args x) ((c24 ss).H x) (outK true 2 ((c24 ss).ret x)) ((c24 ss).pan x)
theorem eq_c24 (G : Gl) (ss : List (List Nat)) (x : XW) : cond_c24 G ss x = (law_c24 G ss x).den := by kernel_rfl
theorem ph24_next {ss : List (List Nat)} {x : XW} {y : Y24} (h : ph24 ss x y) (hx : xwOK ss x) {p : Pt} (hp : x.l[y.i]? = some p) :
   ∃ s, isRo x.rel 5 p.s.val (ints s) /\ s.length = p.s.n /\ (∀ b ∈ s, b < 256) /\ (∀ C w, putM x.lens x.extra x.big y.B.length p s = some C -> C.length <= 320 -> ph24 ss x ⟨y.i + 1, w, y.B ++ C⟩) /\ (putM x.lens x.extra x.big y.B.length p s = none -> x.run ss = none) := by
 have hi : y.i < x.l.length := (List.getElem?_eq_some_iff.1 hp).1
 have hsl := hx.ss.len
 have hs : ss[y.i]? = some ss[y.i] := List.getElem?_eq_getElem (by omega)
 obtain ⟨h1, h2, h3⟩ := hx.ss.ro _ _ _ hp hs
 have hz : (x.l.zip ss)[y.i]? = some (p, ss[y.i]) := List.getElem?_zip_eq_some.2 ⟨hp, hs⟩
 have ht : (x.l.zip ss).take (y.i + 1) = (x.l.zip ss).take y.i ++ [(p, ss[y.i])] := take_succ hz
 refine ⟨ss[y.i], h1, h2, h3, fun C w hC hl => ⟨hi, ?_, ?_, ?_⟩, fun hn => ?_⟩
 . dsimp only
   rw [ht, wrM_snoc, h.run, Option.bind_some, hC]; rfl
 . have := h.len
   dsimp only
   rw [List.length_append]; omega
 . intro b hb
   rcases List.mem_append.1 hb with hb | hb
   . exact h.bit b hb
   . exact putM_lt hC b hb
 . unfold XW.run
   refine wrM_none (y.i + 1) ?_
   rw [ht, wrM_snoc, h.run, Option.bind_some, hn]; rfl
theorem neg_and7 (n : Nat) : bitI BinOp.and IntKind.i64 (0 - (n : Int)) 7 = ((padN n : Nat) : Int) := by
 unfold bitI
 show IntKind.i64.wrap (((BitVec.ofInt 64 (0 - (n : Int)) &&& BitVec.ofInt 64 7).toNat : Nat) : Int) = _
 rw [BitVec.toNat_and, BitVec.toNat_ofInt, BitVec.toNat_ofInt]
 have e7 : ((7 : Int) % ((2 ^ 64 : Nat) : Int)).toNat = 2 ^ 3 - 1 := by decide
 rw [e7, Nat.and_two_pow_sub_one_eq_mod]
 have : ((0 - (n : Int)) % ((2 ^ 64 : Nat) : Int)).toNat % 2 ^ 3 = padN n := by unfold padN; omega
 rw [this]
 exact wrI (by omega) (by unfold padN; omega)
theorem padN_lt (n : Nat) : padN n < 8 := by unfold padN; omega
theorem shr_zero {v n : Nat} (hn : n <= 64) : shrI IntKind.u64 (v : Int) (n : Int) = 0 ↔ v < 2 ^ n := by
 rw [shrN, show min n IntKind.u64.bits = n by simp only [IntKind.bits]; omega]
 constructor
 . intro h
   have h : v / 2 ^ n = 0 := by omega
   exact (Nat.div_eq_zero_iff_lt (Nat.pow_pos (by decide))).1 h
 . intro h; rw [Nat.div_eq_of_lt h]; rfl
theorem codeV_lt {lens : List Nat} (hg : Good lens) {i : Nat} (hi : i < lens.length) : codeV lens i < 2 ^ 20 /\ lens.getD i 0 <= 20 := by
 have h20 := (hg.pos _ (getD_mem hi)).2
 exact ⟨Nat.lt_of_lt_of_le (rev_lt _ _) (Nat.pow_le_pow_right (by decide) h20), h20⟩
theorem ok_c24 (G : Gl) (ss : List (List Nat)) (x : XW) (hx : xwOK ss x) : cond_c24 G ss x := by
 unfold cond_c24
 have e3 : ∀ l : List Nat, nats (ints l) = l := nats_ints
 simp only [e3, lensOf_canon, extraOf_rgL, br_d, br_i, rel_self, true_and, and_true, inRange, inI64, Int.toNat_natCast, ints_len, rgL_len]
 have h60 := hx.light.1
 refine fun b => ⟨⟨0, .slice none 0 0, []⟩, ⟨Nat.zero_le _, rfl, Nat.zero_le _, fun b hb => by simp at hb⟩, rfl, ⟨rfl, rfl⟩, ⟨rfl, rfl⟩, fun y hy => ⟨fun hlt => ?_, fun hge => ?_⟩⟩
 . have hi := hy.i
   have hlen := hy.len
   refine ⟨by omega, by omega, fun p hp b2 => ?_⟩
   have hpm := List.mem_of_getElem? hp
   obtain ⟨k1, k2, k3, k4, k5⟩ := hx.light.2 p hpm
   obtain ⟨v1, v2⟩ := hx.v p hpm
   have n1 := hx.n p hpm
   obtain ⟨pv, hpv⟩ : ∃ pv : Nat, p.v = (pv : Int) := ⟨p.v.toNat, by omega⟩
   obtain ⟨pn, hpn⟩ : ∃ pn : Nat, p.n = (pn : Int) := ⟨p.n.toNat, by omega⟩
   obtain ⟨s, s1, s2, s3, hgo, hno⟩ := ph24_next hy hx hp
   have fail : putM x.lens x.extra x.big y.B.length p s = none -> ∃ x6 : Rel TT, (relLe x.rel x6 /\ x.run ss = none) /\ relLe x6 (relAdd x.rel 5 y.y (ints y.B)) := fun hn => ⟨x.rel, ⟨relLe.refl _, hno hn⟩, relLe.add _ _ _ _⟩
   have go : ∀ C, putM x.lens x.extra x.big y.B.length p s = some C -> C.length <= 320 -> ∀ w : Value, (-9223372036854775808 <= (y.i : Int) + 1 /\ (y.i : Int) + 1 < 9223372036854775808) /\ ∃ x8 : Y24, (ph24 ss x x8 /\ x.l.length - x8.i < x.l.length - y.i) /\ (y.i : Int) + 1 = x8.i /\ (w = x8.y /\ (y.B ++ C).length = x8.B.length) /\ w = x8.y /\ ints (y.B ++ C) = ints x8.B := by
     intro C hC hl w
     exact ⟨by omega, ⟨y.i + 1, w, y.B ++ C⟩, ⟨hgo C w hC hl, by dsimp only; omega⟩, by dsimp only; omega, ⟨rfl, rfl⟩, rfl, rfl⟩
   unfold putM at go fail
   simp only [hpv, hpn, Int.toNat_natCast] at go fail ⊢
   have hB8 : y.B.length <= 8000000 := by omega
   refine ⟨fun e0 => ?_, fun e0 => ⟨fun e1 => ?_, fun e1 => ⟨fun e2 => ?_, fun e2 => ⟨fun e3 => ?_, fun e3 => ⟨fun e4 => ?_, fun e4 => ?_⟩⟩⟩⟩⟩
   . have hpn32 : pn <= 32 := by have := k3 e0; omega
     rw [if_pos e0] at go fail
     refine ⟨by omega, br_mk (fun hb => ?_) (fun hb => ?_)⟩
     . refine .inl (fail (if_neg fun h => ?_))
       rw [(shr_zero (by omega)).2 h] at hb
       simp at hb
     . have hv : pv < 2 ^ pn := (shr_zero (by omega)).1 (by simpa using hb)
       exact fun _ => ⟨⟨hB8, by omega, by omega⟩, trivial, trivial, fun w _ => go _ (if_pos hv) (by rw [nb_len]; omega) w⟩
   . rw [if_neg e0, if_pos e1] at go fail
     refine fun _ => ⟨⟨hx.good, by omega⟩, trivial, fun _ h _ => .inl (fail (if_neg (by omega))), fun _ h _ _ => ?_⟩
     obtain ⟨c1, c2⟩ := codeV_lt hx.good h
     have w1 : IntKind.wrap IntKind.u64 ((codeV x.lens pv : Nat) : Int) = ((codeV x.lens pv : Nat) : Int) := wrId rfl (by simp only [IntKind.bits]; omega)
     have w2 : IntKind.wrap IntKind.u64 ((x.lens.getD pv 0 : Nat) : Int) = ((x.lens.getD pv 0 : Nat) : Int) := wrId rfl (by simp only [IntKind.bits]; omega)
     simp only [w1, w2, Int.toNat_natCast]
     exact ⟨⟨hB8, by omega, by omega⟩, trivial, trivial, fun w _ => go _ (if_pos h) (by rw [codeB, nb_len]; omega) w⟩
   . rw [if_neg e0, if_neg e1, if_pos e2] at go fail
     refine fun _ => ⟨⟨hx.en, hx.el, by omega⟩, trivial, fun _ h => .inl (fail (by rw [h])), fun i h => ?_⟩
     rw [h] at go fail
     dsimp only at go fail
     obtain ⟨r1, r2, r3⟩ := rgM_some h
     have hel := hx.el
     refine fun _ => ⟨⟨hx.good, by omega⟩, fun _ h _ => .inl (fail (if_neg (by omega))), fun _ h' _ _ => ?_⟩
     obtain ⟨c1, c2⟩ := codeV_lt hx.good h'
     have w1 : IntKind.wrap IntKind.u64 ((codeV x.lens i : Nat) : Int) = ((codeV x.lens i : Nat) : Int) := wrId rfl (by simp only [IntKind.bits]; omega)
     have w2 : IntKind.wrap IntKind.u64 ((x.lens.getD i 0 : Nat) : Int) = ((x.lens.getD i 0 : Nat) : Int) := wrId rfl (by simp only [IntKind.bits]; omega)
     simp only [w1, w2, Int.toNat_natCast]
     refine ⟨⟨hB8, by omega, by omega⟩, trivial, trivial, fun w _ => ⟨by omega, r1, r1, fun c hc => ⟨by omega, r1, r1, fun c' hc' _ => ?_⟩⟩⟩
     obtain rfl := Option.some.inj (hc.symm.trans hc')
     obtain ⟨n, hn, rfl⟩ := rgL_sum hc
     have hsum := sum2_le (x.extra.take i) fun a ha => hx.en a (List.mem_of_mem_take ha)
     rw [List.length_take] at hsum
     have hsum' : sum2 (x.extra.take i) <= 30 * 2 ^ 20 := Nat.le_trans hsum (Nat.mul_le_mul_right _ (by omega))
     have hn20 : n <= 20 := hx.en n (List.mem_of_getElem? hn)
     have hgd : x.extra.getD i 0 = n := by rw [List.getD_eq_getElem?_getD, hn]; rfl
     have e0' : 0 + sum2 (x.extra.take i) = sum2 (x.extra.take i) := by omega
     have w3 : IntKind.wrap IntKind.u64 (((0 + sum2 (x.extra.take i) : Nat)) : Int) = ((sum2 (x.extra.take i) : Nat) : Int) := by rw [e0']; exact wrId rfl (by simp only [IntKind.bits]; omega)
     have w4 : IntKind.wrap IntKind.u64 ((pv : Int) - ((sum2 (x.extra.take i) : Nat) : Int)) = ((pv - sum2 (x.extra.take i) : Nat) : Int) := by rw [wr64]; omega
     have w5 : IntKind.wrap IntKind.u64 ((n : Nat) : Int) = ((n : Nat) : Int) := wrId rfl (by simp only [IntKind.bits]; omega)
     simp only [w3, w4, w5, Int.toNat_natCast, List.append_assoc]
     refine ⟨⟨by rw [List.length_append, nb_len]; omega, by omega, by omega⟩, trivial, trivial, fun w _ => ?_⟩
     have := go _ (if_pos h') (by rw [List.length_append, codeB, nb_len, nb_len]; omega) w
     rw [hgd] at this
     exact this
   . rw [if_neg e0, if_neg e1, if_neg e2, if_pos e3] at go fail
     have hp8 := padN_lt y.B.length
     have w1 : IntKind.wrap IntKind.u64 ((padN y.B.length : Nat) : Int) = ((padN y.B.length : Nat) : Int) := wrId rfl (by simp only [IntKind.bits]; omega)
     simp only [neg_and7, w1, Int.toNat_natCast]
     refine ⟨by omega, by omega, br_mk (fun hb => ?_) (fun hb => ?_)⟩
     . refine .inl (fail (if_neg fun h => ?_))
       rw [(shr_zero (by omega)).2 h] at hb
       simp at hb
     . have hv : pv < 2 ^ padN y.B.length := (shr_zero (by omega)).1 (by simpa using hb)
       exact fun _ => ⟨⟨hB8, by omega, by omega⟩, trivial, trivial, fun w _ => go _ (if_pos hv) (by rw [nb_len]; omega) w⟩
   . rw [if_neg e0, if_neg e1, if_neg e2, if_neg e3, if_pos e4] at go fail
     have t1 : Int.tmod (y.B.length : Int) 8 = ((y.B.length % 8 : Nat) : Int) := by rw [Int.tmod_eq_emod_of_nonneg (by omega)]; omega
     rw [t1]
     refine ⟨by decide, br_mk (fun hb => ?_) (fun hb => ?_)⟩
     . refine .inl (fail (if_neg fun h => ?_))
       rw [h] at hb
       simp at hb
     . have hv : y.B.length % 8 = 0 := by
         have : ((y.B.length % 8 : Nat) : Int) = 0 := by simpa using hb
         omega
       refine ⟨ints s, s1, fun _ _ => ?_⟩
       have en : nats (ints s) = s := nats_ints s
       rw [en]
       refine ⟨⟨s3, by omega⟩, rfl, fun w _ => ⟨by unfold room; rw [bitsOf_len]; omega, fun w => ?_⟩⟩
       have := go _ (if_pos hv) (by rw [bitsOf_len]; omega) w
       rw [ints_app, List.length_append] at this
       exact this
   . rw [if_neg e0, if_neg e1, if_neg e2, if_neg e3, if_neg e4] at fail
     exact .inl (fail rfl)
 . have hi := hy.i
   have hlen := hy.len
   have hrun := hy.run
   have hil : y.i = x.l.length := by omega
   rw [hil, List.take_of_length_le (by rw [List.length_zip]; omega)] at hrun
   refine fun _ => ⟨⟨by omega, hy.bit⟩, fun w _ => ⟨(packL_len _ _ _).symm, .inr ⟨⟨x.rel, w, y.B⟩, ⟨relLe.refl _, hrun, by dsimp only; omega, hy.bit⟩, ⟨rfl, rfl⟩, rfl, relLe.add _ _ _ _⟩⟩⟩
theorem b24_ok (G : Gl) : ∀ f pt, b24 f = some pt -> SpecOK (CC G) f pt := by
 intro f pt h
 unfold b24 at h
 split at h
 . cases h; exact loc_ok (s48 G) _
 . cases h; exact loc_ok (s54 G) _
 . cases h; exact loc_ok (s55 G) _
 . cases h; exact loc_ok (s56 G) _
 . cases h; exact loc_ok (s57 G) _
 . cases h
theorem s24 (G : Gl) (ss : List (List Nat)) : SpecOK (CC G) 24 (c24 ss).pt := spec G (b24_ok G) (fn := Tryz.f24) rfl NA (c24 ss) (fun x => a24 ss x) fun x h => Met.of (eq_c24 G ss x) (ok_c24 G ss x h)
end Pc
/-
 The encoders.
-/
set_option linter.unusedVariables false
set_option maxRecDepth 100000
open Go Go.Vg Go.Proofs
namespace Pc
def cond_c61 (G : Gl) (x : X61) : Prop :=
 Br (decide ((↑(List.length (canonL x.lens)) : Int) <= (1 : Int))) (Br ((↑(List.length (canonL x.lens)) : Int) == (0 : Int)) (Rf x.eb /\ (Rz /\ Rz) /\ Rf x.eb /\ Rf x.eb /\ ∃ x1 : EV, evOK x.lens x1 /\ x.m = x.m /\ Rl x.rel /\ Rf x.eb /\ (Rn /\ Value.slice none 0 0 = x1.y /\ ints (encT x.lens ((2 : Nat) ^ x1.k) x.lens.length) = []) /\ ((0 : Int) = (↑((2 : Nat) ^ x1.k - 1) : Int)) /\ (0 : Int) = (x.lens.length : Int) /\ True) (Br ((↑(List.length (canonL x.lens)) : Int) == (1 : Int)) (inRange (0 : Int) (List.length (canonL x.lens)) /\ (0 : Nat) < List.length (canonL x.lens) /\ (0 : Nat) < List.length (canonL x.lens) /\ ∀ x1 : Cd, (((canonL x.lens)[(0 : Nat)]? = some x1) -> Br (x1.len == (0 : Int)) (Rf x.eb /\ (Rz /\ Rz) /\ inRange (0 : Int) (List.length (canonL x.lens)) /\ (0 : Nat) < List.length (canonL x.lens) /\ (0 : Nat) < List.length (canonL x.lens) /\ ∀ x2 : Cd, (((canonL x.lens)[(0 : Nat)]? = some x2) -> (0 : Int) <= (5 : Int) /\ ∀ x3 : Nat, Rf (SV.toV (T := TT) (SV.p 2 x.eb (Off.lit 0))) /\ Rf (SV.toV (T := TT) (SV.p 2 x.eb (Off.lit 0))) /\ Rf (SV.toV (T := TT) (SV.p 2 x.eb (Off.lit 0))) /\ SV.toV (T := TT) (SV.p 2 x.eb (Off.add (Off.lit 0) 0)) = SV.toV (T := TT) (SV.p 2 x.eb (Off.lit 0)) /\ Rf x.eb /\ Rf (SV.toV (T := TT) (SV.v (Value.slice none 0 0))) /\ (Rz /\ Rz) /\ Rf (SV.toV (T := TT) (SV.v (Value.slice none 0 0))) /\ (Rf (Value.slice (some (Addr.mk x3 0 none)) 1 1) /\ 1 = List.length [bitI BinOp.or IntKind.u32 (shlI IntKind.u32 x2.val (5 : Int)) (0 : Int)]) /\ room (List.length [bitI BinOp.or IntKind.u32 (shlI IntKind.u32 x2.val (5 : Int)) (0 : Int)]) 4 /\ ∀ x4 : Value, Rf (SV.toV (T := TT) (SV.p 2 x.eb (Off.lit 0))) /\ Rf x.eb /\ Rf x.eb /\ x4 = x4 /\ (Rf (List.length [bitI BinOp.or IntKind.u32 (shlI IntKind.u32 x2.val (5 : Int)) (0 : Int)]) /\ (0 : Int) <= (0 : Int) /\ (0 : Int) <= (1 : Int) /\ (1 : Int) <= (↑(List.length [bitI BinOp.or IntKind.u32 (shlI IntKind.u32 x2.val (5 : Int)) (0 : Int)]) : Int)) /\ Rf x.eb /\ Rf x.eb /\ ∃ x5 : EV, evOK x.lens x5 /\ x.m = x.m /\ relLe x.rel (relAdd x.rel 43 (Value.slice (some (Addr.mk x3 0 none)) 1 1) [bitI BinOp.or IntKind.u32 (shlI IntKind.u32 x2.val (5 : Int)) (0 : Int)]) /\ Rf x.eb /\ False /- "match: values of two makes" -/)) (False /- "an end that is not among the contract's" -/))) (False /- "an end that is not among the contract's" -/))) ((inI64 ((↑(List.length (canonL x.lens)) : Int) - (1 : Int))) /\ ∃ x1 : Nat, (x1 <= 6 /\ (x1 = 0 \/ (0 : Nat) < (x.lens.length - 1) / (2 : Nat) ^ (x1 - 1))) /\ ((1 : Int) = (↑((2 : Nat) ^ x1) : Int)) /\ ((↑(List.length (canonL x.lens)) : Int) - (1 : Int) = (↑((x.lens.length - 1) / (2 : Nat) ^ x1) : Int)) /\ x.m = x.m /\ Rl x.rel /\ Rf x.eb /\ Rn /\ Rz /\ Rz /\ ∀ x2 : Nat, ((x2 <= 6 /\ (x2 = 0 \/ (0 : Nat) < (x.lens.length - 1) / (2 : Nat) ^ (x2 - 1))) -> Br (decide ((↑((x.lens.length - 1) / (2 : Nat) ^ x2) : Int) > (0 : Int))) ((0 : Int) <= (1 : Int) /\ (0 : Int) <= (1 : Int) /\
 ∃ x3 : Nat, ((x3 <= 6 /\ (x3 = 0 \/ (0 : Nat) < (x.lens.length - 1) / (2 : Nat) ^ (x3 - 1))) /\ (x.lens.length - 1) / (2 : Nat) ^ x3 < (x.lens.length - 1) / (2 : Nat) ^ x2) /\ (shlI IntKind.i64 (↑((2 : Nat) ^ x2) : Int) (1 : Int) = (↑((2 : Nat) ^ x3) : Int)) /\ (shrI IntKind.i64 (↑((x.lens.length - 1) / (2 : Nat) ^ x2) : Int) (1 : Int) = (↑((x.lens.length - 1) / (2 : Nat) ^ x3) : Int)) /\ x.m = x.m /\ Rl x.rel /\ Rf x.eb /\ Rn /\ Rz /\ Rz /\ True) (Rf x.eb /\ Rf x.eb /\ ∀ x3 : Fz, ((0 : Nat) < ((2 : Nat) ^ x2) /\ ((2 : Nat) ^ x2) <= 1000000) /\ (Rn /\ Rn /\ Rf 0) /\ ((↑((2 : Nat) ^ x2) : Int) = (↑(((2 : Nat) ^ x2)) : Int)) /\ x3 = x3 /\ Rl x.rel /\ ∀ x4 : Value, (True -> x3 = x3 /\ Rf x.eb /\ (inI64 ((↑((2 : Nat) ^ x2) : Int) - (1 : Int))) /\ Rf x.eb /\ Rf x.eb /\ ∃ x5 : Nat, x5 <= List.length (ints (List.replicate (((2 : Nat) ^ x2)) 0)) /\ (0 : Int) = (x5 : Int) /\ x.m = x.m /\ Rl x.rel /\ Rf x.eb /\ (x4 = x4 /\ Rf ((2 : Nat) ^ x2)) /\ (Rf (IntKind.wrap IntKind.u32 ((↑((2 : Nat) ^ x2) : Int) - (1 : Int)))) /\ (Rf (IntKind.wrap IntKind.u32 (↑(List.length (canonL x.lens)) : Int))) /\ (x4 = x4 /\ Rf (ints (List.replicate (((2 : Nat) ^ x2)) 0))) /\ ∀ x6 : Nat, ((x6 <= List.length (ints (List.replicate (((2 : Nat) ^ x2)) 0))) -> Br (decide ((x6 : Int) < (↑(((2 : Nat) ^ x2)) : Int))) (Rf x.eb /\ x4 = x4 /\ inRange (x6 : Int) (List.length (ints (List.replicate (((2 : Nat) ^ x2)) 0))) /\ (x4 = x4 /\ x6 < List.length (ints (List.replicate (((2 : Nat) ^ x2)) 0))) /\ inI64 ((x6 : Int) + (1 : Int)) /\ ∃ x7 : Nat, (x7 <= List.length (ints (List.replicate (((2 : Nat) ^ x2)) 0)) /\ List.length (ints (List.replicate (((2 : Nat) ^ x2)) 0)) - x7 < List.length (ints (List.replicate (((2 : Nat) ^ x2)) 0)) - x6) /\ (x6 : Int) + (1 : Int) = (x7 : Int) /\ x.m = x.m /\ Rl x.rel /\ Rf x.eb /\ (x4 = x4 /\ Rf ((2 : Nat) ^ x2)) /\ (Rf (IntKind.wrap IntKind.u32 ((↑((2 : Nat) ^ x2) : Int) - (1 : Int)))) /\ (Rf (IntKind.wrap IntKind.u32 (↑(List.length (canonL x.lens)) : Int))) /\ (x4 = x4 /\ List.set (ints (List.replicate (((2 : Nat) ^ x2)) 0)) x6 (0 : Int) = ints (List.replicate (((2 : Nat) ^ x2)) 0)) /\ True) (∃ x7 : Nat, x7 <= x.lens.length /\ (0 : Int) = (x7 : Int) /\ x.m = x.m /\ Rl x.rel /\ Rf x.eb /\ (x4 = x4 /\ Rf ((2 : Nat) ^ x2)) /\ (Rf (IntKind.wrap IntKind.u32 ((↑((2 : Nat) ^ x2) : Int) - (1 : Int)))) /\ (Rf (IntKind.wrap IntKind.u32 (↑(List.length (canonL x.lens)) : Int))) /\ (x4 = x4 /\ ints (List.replicate (((2 : Nat) ^ x2)) 0) = ints (encT x.lens (List.length (ints (List.replicate (((2 : Nat) ^ x2)) 0))) x7)) /\ ∀ x8 : Nat, ((x8 <= x.lens.length) -> Br (decide ((x8 : Int) < (↑(List.length (canonL x.lens)) : Int))) (inRange (x8 : Int) (List.length (canonL x.lens)) /\ x8 < List.length (canonL x.lens) /\ ∀ x9 : Cd, (((canonL x.lens)[x8]? = some x9) -> ∀ x10 : Nat, x10 = x10 /\ Rf x.eb /\ x10 = x10 /\ Rf x.eb /\ x4 = x4 /\ (inRange (bitI BinOp.and IntKind.u32 x9.sym (IntKind.wrap IntKind.u32 ((↑((2 : Nat) ^ x2) : Int) - (1 : Int)))) (List.length (ints (encT x.lens (List.length (ints (List.replicate (((2 : Nat) ^ x2)) 0))) x8)))) /\
 x4 = x4 /\ (Int.toNat (bitI BinOp.and IntKind.u32 x9.sym (IntKind.wrap IntKind.u32 ((↑((2 : Nat) ^ x2) : Int) - (1 : Int)))) < List.length (ints (encT x.lens (List.length (ints (List.replicate (((2 : Nat) ^ x2)) 0))) x8))) /\ ∀ x11 : Int, (((ints (encT x.lens (List.length (ints (List.replicate (((2 : Nat) ^ x2)) 0))) x8))[Int.toNat (bitI BinOp.and IntKind.u32 x9.sym (IntKind.wrap IntKind.u32 ((↑((2 : Nat) ^ x2) : Int) - (1 : Int))))]? = some x11) -> Br (decide (x11 > (0 : Int))) (False /- "a slot of which nothing is known" -/) (Rf x.eb /\ x10 = x10 /\ Rf x.eb /\ x10 = x10 /\ (0 : Int) <= (5 : Int) /\ x10 = x10 /\ x4 = x4 /\ (inRange (bitI BinOp.and IntKind.u32 x9.sym (IntKind.wrap IntKind.u32 ((↑((2 : Nat) ^ x2) : Int) - (1 : Int)))) (List.length (ints (encT x.lens (List.length (ints (List.replicate (((2 : Nat) ^ x2)) 0))) x8)))) /\ (x4 = x4 /\ Int.toNat (bitI BinOp.and IntKind.u32 x9.sym (IntKind.wrap IntKind.u32 ((↑((2 : Nat) ^ x2) : Int) - (1 : Int)))) < List.length (ints (encT x.lens (List.length (ints (List.replicate (((2 : Nat) ^ x2)) 0))) x8))) /\ inI64 ((x8 : Int) + (1 : Int)) /\ ∃ x12 : Nat, (x12 <= x.lens.length /\ x.lens.length - x12 < x.lens.length - x8) /\ (x8 : Int) + (1 : Int) = (x12 : Int) /\ x.m = x.m /\ Rl x.rel /\ Rf x.eb /\ (x4 = x4 /\ Rf ((2 : Nat) ^ x2)) /\ (Rf (IntKind.wrap IntKind.u32 ((↑((2 : Nat) ^ x2) : Int) - (1 : Int)))) /\ (Rf (IntKind.wrap IntKind.u32 (↑(List.length (canonL x.lens)) : Int))) /\ (x4 = x4 /\ List.set (ints (encT x.lens (List.length (ints (List.replicate (((2 : Nat) ^ x2)) 0))) x8)) (Int.toNat (bitI BinOp.and IntKind.u32 x9.sym (IntKind.wrap IntKind.u32 ((↑((2 : Nat) ^ x2) : Int) - (1 : Int))))) (bitI BinOp.or IntKind.u32 (shlI IntKind.u32 x9.val (5 : Int)) x9.len) = ints (encT x.lens (List.length (ints (List.replicate (((2 : Nat) ^ x2)) 0))) x12)) /\ True)))) ((x4 = x4 /\ ((2 : Nat) ^ x2) = List.length (ints (encT x.lens (List.length (ints (List.replicate (((2 : Nat) ^ x2)) 0))) x8))) /\ Rf x.eb /\ ∃ x9 : EV, evOK x.lens x9 /\ x.m = x.m /\ Rl x.rel /\ Rf x.eb /\ (x4 = x9.y /\ ints (encT x.lens (List.length (ints (List.replicate (((2 : Nat) ^ x2)) 0))) x8) = ints (encT x.lens ((2 : Nat) ^ x9.k) x.lens.length)) /\ (IntKind.wrap IntKind.u32 ((↑((2 : Nat) ^ x2) : Int) - (1 : Int)) = (↑((2 : Nat) ^ x9.k - 1) : Int)) /\ (IntKind.wrap IntKind.u32 (↑(List.length (canonL x.lens)) : Int) = (x.lens.length : Int)) /\ True))))))))
noncomputable def law_c61 (G : Gl) (x : X61) : VCT := fnx (CC G) (IN G b61 NA) (a61 x.lens) Tryz.f61 (c61.args x) (c61.H x) (outB [2] true 3 (c61.ret x)) (c61.pan x)
theorem eq_c61 (G : Gl) (x : X61) : cond_c61 G x = (law_c61 G x).den := by kernel_rfl
def cond_c66 (G : Gl) (B lens : List Nat) (x : (WS × Nat × EV) × Nat) : Prop :=
 ∀ x1 : Fz, (wsOK B (WS.mk x1 x.1.1.rel x.1.1.wb x.1.1.ob x.1.1.big x.1.1.off x.1.1.w x.1.1.b) /\ x.1.1.w.cnt <= 503) /\ (Rf x.1.1.wb /\ Ro) /\ x1 = x1 /\ Rl x.1.1.rel /\ Rf x.1.1.wb /\ Rf (x.1.1.off : Int) /\ (Rf x.1.1.ob /\ Ro) /\ Rf (x.1.1.w.bits : Int) /\ Rf (x.1.1.w.num : Int) /\ Rf x.1.1.big /\ (Rf 512 /\ Rf x.1.1.w.arr) /\ Rf (x.1.1.w.cnt : Int) /\ Rf x.1.1.ob /\ (Rf x.1.1.b.x /\ Rf 0 /\ Rf x.1.1.b.n /\ Rf x.1.1.b.v) /\ Rz /\ Rf x.1.1.b.last /\ (Rf x.1.1.b.x /\ Rf x.1.1.b.l) /\ ∀ x2 : WV, ((psh B (WS.mk x1 x.1.1.rel x.1.1.wb x.1.1.ob x.1.1.big x.1.1.off x.1.1.w x.1.1.b) x2) -> x1 = x1 /\ Rf x.1.2.1 /\ Rf x.1.2.1 /\ (inRange (bitI BinOp.and IntKind.u32 (IntKind.wrap IntKind.u32 (x.2 : Int)) (↑((2 : Nat) ^ x.1.2.2.k - 1) : Int)) (List.length (ints (encT lens ((2 : Nat) ^ x.1.2.2.k) (List.length lens))))) /\ (Int.toNat (bitI BinOp.and IntKind.u32 (IntKind.wrap IntKind.u32 (x.2 : Int)) (↑((2 : Nat) ^ x.1.2.2.k - 1) : Int)) < List.length (ints (encT lens ((2 : Nat) ^ x.1.2.2.k) (List.length lens)))) /\ ∀ x3 : Int, (((ints (encT lens ((2 : Nat) ^ x.1.2.2.k) (List.length lens)))[Int.toNat (bitI BinOp.and IntKind.u32 (IntKind.wrap IntKind.u32 (x.2 : Int)) (↑((2 : Nat) ^ x.1.2.2.k - 1) : Int))]? = some x3) -> Rf x.1.1.wb /\ (0 : Int) <= (5 : Int) /\ Rf x.1.1.wb /\ (0 : Int) <= (x2.num : Int) /\ Rf x.1.1.wb /\ Rf x.1.1.wb /\ Rf x.1.1.wb /\ ∃ x4 : WV, (wrt B (codeB lens x.2) x.1.1 x4 /\ x4.num <= 27) /\ Rf x.1.1.m /\ Rl x.1.1.rel /\ Rf x.1.1.wb /\ Rf (x.1.1.off : Int) /\ (Rf x.1.1.ob /\ Ro) /\ bitI BinOp.or IntKind.u64 (x2.bits : Int) (shlI IntKind.u64 (IntKind.wrap IntKind.u64 (shrI IntKind.u32 x3 (5 : Int))) (x2.num : Int)) = (x4.bits : Int) /\ IntKind.wrap IntKind.u64 ((x2.num : Int) + IntKind.wrap IntKind.u64 (bitI BinOp.and IntKind.u32 x3 (31 : Int))) = (x4.num : Int) /\ Rf x.1.1.big /\ (Rf 512 /\ x2.arr = x4.arr) /\ (x2.cnt : Int) = (x4.cnt : Int) /\ Rf x.1.1.ob /\ (Rf x.1.1.b.x /\ Rf 0 /\ Rf x.1.1.b.n /\ Rf x.1.1.b.v) /\ Rz /\ Rf x.1.1.b.last /\ (Rf x.1.1.b.x /\ Rf x.1.1.b.l) /\ Rf x.1.2.1 /\ (Rf x.1.2.2.y /\ Rf (ints (encT lens ((2 : Nat) ^ x.1.2.2.k) (List.length lens)))) /\ (Rf (↑((2 : Nat) ^ x.1.2.2.k - 1) : Int)) /\ Rf (↑(List.length lens) : Int) /\ True))
noncomputable def law_c66 (G : Gl) (B lens : List Nat) (x : (WS × Nat × EV) × Nat) : VCT := fnx (CC G) (IN G (b65 B) NA) noAnn Tryz.f66 ((c66 B lens).args x) ((c66 B lens).H x) (outK true 6 ((c66 B lens).ret x)) ((c66 B lens).pan x)
theorem eq_c66 (G : Gl) (B lens : List Nat) (x : (WS × Nat × EV) × Nat) : cond_c66 G B lens x = (law_c66 G B lens x).den := by kernel_rfl
def cond_c115 (G : Gl) (m : Fz) (rel : Rel TT) (y : Value) (extra : List Nat) : Prop :=
 Br ((↑(List.length (rgL 0 extra)) : Int) == (0 : Int)) (∃ x1 : Unit, True /\ false = true /\ m = m /\ relLe rel rel /\ True) (inRange (0 : Int) (List.length (rgL 0 extra)) /\ (0 : Nat) < List.length (rgL 0 extra) /\ ∀ x1 : Rg, (((rgL 0 extra)[(0 : Nat)]? = some x1) -> ∀ x2 : Nat, x2 = x2 /\ ((0 : Int) <= (1 : Int) /\ (1 : Int) <= (↑(List.length (rgL 0 extra)) : Int) /\ (↑(List.length (rgL 0 extra)) : Int) <= (↑(List.length (rgL 0 extra)) : Int)) /\ ∃ x3 : Nat, x3 + 1 <= List.length extra /\ (0 : Int) = (x3 : Int) /\ m = m /\ relLe rel rel /\ x2 = x2 /\ (x1.base = (↑(sum2 (List.take x3 extra)) : Int)) /\ x1.len = (↑(List.getD extra x3 0) : Int) /\ ∀ x4 : Nat, ((x4 + 1 <= List.length extra) -> Br (decide ((x4 : Int) < (↑(List.length (List.drop 1 (List.take ((List.length (rgL 0 extra))) (rgL 0 extra)))) : Int))) (inRange (x4 : Int) (List.length (List.drop 1 (List.take ((List.length (rgL 0 extra))) (rgL 0 extra)))) /\ x4 < List.length (List.drop 1 (List.take ((List.length (rgL 0 extra))) (rgL 0 extra))) /\ ∀ x5 : Rg, (((List.drop 1 (List.take ((List.length (rgL 0 extra))) (rgL 0 extra)))[x4]? = some x5) -> ∀ x6 : Nat, x6 = x6 /\ x2 = x2 /\ x2 = x2 /\ ∀ x7 : Nat, x7 = x7 /\ x7 = x7 /\ (0 : Int) <= (↑(List.getD extra x4 0) : Int) /\ SV.toV (T := TT) (SV.p 2 x2 (Off.add (Off.lit 0) 0)) = SV.toV (T := TT) (SV.p 2 x2 (Off.lit 0)) /\ x2 = x2 /\ (Rf (SV.toV (T := TT) (SV.v (Value.int IntKind.u32 (↑(sum2 (List.take x4 extra)) : Int))))) /\ x6 = x6 /\ x6 = x6 /\ ∀ x8 : Nat, x8 = x8 /\ x8 = x8 /\ (0 : Int) <= x5.len /\ SV.toV (T := TT) (SV.p 3 x6 (Off.add (Off.lit 0) 0)) = SV.toV (T := TT) (SV.p 3 x6 (Off.lit 0)) /\ x6 = x6 /\ Rf (SV.toV (T := TT) (SV.v (Value.int IntKind.u32 x5.base))) /\ Br (decide ((↑(sum2 (List.take x4 extra)) : Int) > x5.base)) (∃ x9 : Unit, True /\ false = true /\ m = m /\ relLe rel rel /\ True) (Br (decide (IntKind.wrap IntKind.u32 ((↑(sum2 (List.take x4 extra)) : Int) + shlI IntKind.u32 (1 : Int) (↑(List.getD extra x4 0) : Int)) > IntKind.wrap IntKind.u32 (x5.base + shlI IntKind.u32 (1 : Int) x5.len))) (∃ x9 : Unit, True /\ false = true /\ m = m /\ relLe rel rel /\ True) (Br (decide (IntKind.wrap IntKind.u32 ((↑(sum2 (List.take x4 extra)) : Int) + shlI IntKind.u32 (1 : Int) (↑(List.getD extra x4 0) : Int)) < x5.base)) (∃ x9 : Unit, True /\ false = true /\ m = m /\ relLe rel rel /\ True) (x6 = x6 /\ x2 = x2 /\ inI64 ((x4 : Int) + (1 : Int)) /\ ∃ x9 : Nat, (x9 + 1 <= List.length extra /\ List.length extra - x9 < List.length extra - x4) /\ (x4 : Int) + (1 : Int) = (x9 : Int) /\ m = m /\ relLe rel rel /\ x2 = x2 /\ (x5.base = (↑(sum2 (List.take x9 extra)) : Int)) /\ x5.len = (↑(List.getD extra x9 0) : Int) /\ True))))) (∃ x5 : Unit, True /\ Rf true /\ m = m /\ relLe rel rel /\ True))))
noncomputable def law_c115 (G : Gl) (m : Fz) (rel : Rel TT) (y : Value) (extra : List Nat) : VCT := fnx (CC G) (IN G no NA) (a115 extra) Tryz.f115 (c115.args (m, rel, y, extra)) (c115.H (m, rel, y, extra)) (outK true 2 (c115.ret (m, rel, y, extra))) (c115.pan (m, rel, y, extra))
theorem eq_c115 (G : Gl) (m : Fz) (rel : Rel TT) (y : Value) (extra : List Nat) : cond_c115 G m rel y extra = (law_c115 G m rel y extra).den := by kernel_rfl
def cond_c63 (G : Gl) (x : X63) : Prop :=
 ∀ x1 : Fz, (exOK (extraOf (rgL 0 x.extra)) /\ 0 < List.length (extraOf (rgL 0 x.extra))) /\ (x.y = x.y /\ rgL 0 x.extra = rgL 0 (extraOf (rgL 0 x.extra))) /\ x1 = x1 /\ Rl x.rel /\ ∀ x2 : Unit, (True -> x1 = x1 /\ inRange (0 : Int) (List.length (rgL 0 x.extra)) /\ (0 : Nat) < List.length (rgL 0 x.extra) /\ (0 : Nat) < List.length (rgL 0 x.extra) /\ ∀ x3 : Rg, (((rgL 0 x.extra)[(0 : Nat)]? = some x3) -> Rf x.rb /\ ∃ x4 : Nat × List Nat, ph63 x.extra x4.1 x4.2 /\ (0 : Int) = (x4.1 : Int) /\ x.m = x.m /\ (relLe (noteS (SV.segs (SV.a ([Seg.c (SV.ro 215 x.y (rgL 0 x.extra)), Seg.r 43 1024 (List.replicate 1024 (0 : Int))] ++ SV.segs (SV.v (Value.int IntKind.u64 (IntKind.wrap IntKind.u64 x3.base))) ++ []))) x.rel) (noteS (SV.segs (SV.a ([Seg.c (SV.ro 215 x.y (rgL 0 x.extra)), Seg.r 43 1024 (List.replicate 1024 (0 : Int))] ++ SV.segs (SV.v (Value.int IntKind.u64 (IntKind.wrap IntKind.u64 x3.base))) ++ []))) x.rel)) /\ Rf x.rb /\ (x.y = x.y /\ Rf (rgL 0 x.extra)) /\ (Rf 1024 /\ List.replicate 1024 (0 : Int) = ints x4.2) /\ IntKind.wrap IntKind.u64 x3.base = (0 : Int) /\ ∀ x5 : Nat × List Nat, ((ph63 x.extra x5.1 x5.2) -> Br (decide ((x5.1 : Int) < (↑(List.length (rgL 0 x.extra)) : Int))) (inRange (x5.1 : Int) (List.length (rgL 0 x.extra)) /\ x5.1 < List.length (rgL 0 x.extra) /\ ∀ x6 : Rg, (((rgL 0 x.extra)[x5.1]? = some x6) -> ∀ x7 : Nat, x7 = x7 /\ x7 = x7 /\ inI64 x6.base /\ Rf x.rb /\ inI64 (0 : Int) /\ inI64 (x6.base - (0 : Int)) /\ x7 = x7 /\ Rf x.rb /\ inI64 (0 : Int) /\ ∀ x8 : Nat, x8 = x8 /\ x8 = x8 /\ (0 : Int) <= x6.len /\ Rf (SV.toV (T := TT) (SV.p 2 x.rb (Off.lit 0))) /\ Rf (SV.toV (T := TT) (SV.p 2 x.rb (Off.lit 0))) /\ SV.toV (T := TT) (SV.p 2 x.rb (Off.add (Off.lit 0) 1025)) = SV.toV (T := TT) (SV.p 2 x.rb (Off.lit 1025)) /\ Rf x.rb /\ Rf (SV.toV (T := TT) (SV.v (Value.int IntKind.u64 (0 : Int)))) /\ inI64 (0 : Int) /\ Rf (SV.toV (T := TT) (SV.v (Value.int IntKind.i64 (0 : Int)))) /\ inI64 (IntKind.wrap IntKind.u32 (x6.base + shlI IntKind.u32 (1 : Int) x6.len)) /\ inI64 (IntKind.wrap IntKind.u32 (x6.base + shlI IntKind.u32 (1 : Int) x6.len) - (0 : Int)) /\ Br (decide (x6.base - (0 : Int) >= (1024 : Int))) (∃ x9 : List Nat, lutOK x.extra x9 /\ x.m = x.m /\ (relLe x.rel (noteS (SV.segs (SV.a ([Seg.c (SV.ro 215 x.y (rgL 0 x.extra)), Seg.r 43 1024 (List.replicate 1024 (0 : Int))] ++ SV.segs (SV.v (Value.int IntKind.u64 (IntKind.wrap IntKind.u64 x3.base))) ++ []))) x.rel)) /\ Rf x.rb /\ (x.y = x.y /\ Rf (rgL 0 x.extra)) /\ (Rf 1024 /\ ints x5.2 = ints x9) /\ Rz /\ True) (Br (decide (IntKind.wrap IntKind.u32 (x6.base + shlI IntKind.u32 (1 : Int) x6.len) - (0 : Int) > (1024 : Int))) (∃ x9 : Nat, x9 <= 1024 - Int.toNat (x6.base - (0 : Int)) /\ (x6.base - (0 : Int) = (↑(Int.toNat (x6.base - (0 : Int)) + x9) : Int)) /\
 x.m = x.m /\ (relLe (noteS (SV.segs (SV.a ([Seg.c (SV.ro 215 x.y (rgL 0 x.extra)), Seg.r 43 1024 (List.replicate 1024 (0 : Int))] ++ SV.segs (SV.v (Value.int IntKind.u64 (IntKind.wrap IntKind.u64 x3.base))) ++ []))) x.rel) (noteS (SV.segs (SV.a ([Seg.c (SV.ro 215 x.y (rgL 0 x.extra)), Seg.r 43 1024 (List.replicate 1024 (0 : Int))] ++ SV.segs (SV.v (Value.int IntKind.u64 (IntKind.wrap IntKind.u64 x3.base))) ++ []))) x.rel)) /\ Rf x.rb /\ (x.y = x.y /\ Rf (rgL 0 x.extra)) /\ (Rf 1024 /\ ints x5.2 = setN (ints x5.2) (Int.toNat (x6.base - (0 : Int))) (fun x => (x5.1 : Int)) x9) /\ Rz /\ x7 = x7 /\ Rf x6.base /\ Rf x6.len /\ x8 = x8 /\ Rf x6.base /\ Rf x6.len /\ ∀ x10 : Nat, ((x10 <= 1024 - Int.toNat (x6.base - (0 : Int))) -> Br (decide ((↑(Int.toNat (x6.base - (0 : Int)) + x10) : Int) < (1024 : Int))) ((inRange (↑(Int.toNat (x6.base - (0 : Int)) + x10) : Int) 1024) /\ (Rf x.rb /\ (Int.toNat (x6.base - (0 : Int)) + x10) < List.length (setN (ints x5.2) (Int.toNat (x6.base - (0 : Int))) (fun x => (x5.1 : Int)) x10)) /\ (inI64 ((↑(Int.toNat (x6.base - (0 : Int)) + x10) : Int) + (1 : Int))) /\ ∃ x11 : Nat, (x11 <= 1024 - Int.toNat (x6.base - (0 : Int)) /\ 1024 - Int.toNat (x6.base - (0 : Int)) - x11 < 1024 - Int.toNat (x6.base - (0 : Int)) - x10) /\ ((↑(Int.toNat (x6.base - (0 : Int)) + x10) : Int) + (1 : Int) = (↑(Int.toNat (x6.base - (0 : Int)) + x11) : Int)) /\ x.m = x.m /\ (relLe (noteS (SV.segs (SV.a ([Seg.c (SV.ro 215 x.y (rgL 0 x.extra)), Seg.r 43 1024 (List.replicate 1024 (0 : Int))] ++ SV.segs (SV.v (Value.int IntKind.u64 (IntKind.wrap IntKind.u64 x3.base))) ++ []))) x.rel) (noteS (SV.segs (SV.a ([Seg.c (SV.ro 215 x.y (rgL 0 x.extra)), Seg.r 43 1024 (List.replicate 1024 (0 : Int))] ++ SV.segs (SV.v (Value.int IntKind.u64 (IntKind.wrap IntKind.u64 x3.base))) ++ []))) x.rel)) /\ Rf x.rb /\ (x.y = x.y /\ Rf (rgL 0 x.extra)) /\ (Rf 1024 /\ List.set (setN (ints x5.2) (Int.toNat (x6.base - (0 : Int))) (fun x => (x5.1 : Int)) x10) ((Int.toNat (x6.base - (0 : Int)) + x10)) (IntKind.wrap IntKind.u32 (x5.1 : Int)) = setN (ints x5.2) (Int.toNat (x6.base - (0 : Int))) (fun x => (x5.1 : Int)) x11) /\ Rz /\ x7 = x7 /\ Rf x6.base /\ Rf x6.len /\ x8 = x8 /\ Rf x6.base /\ Rf x6.len /\ True) (inI64 ((x5.1 : Int) + (1 : Int)) /\ ∃ x11 : Nat × List Nat, (ph63 x.extra x11.1 x11.2 /\ x.extra.length - x11.1 < x.extra.length - x5.1) /\ (x5.1 : Int) + (1 : Int) = (x11.1 : Int) /\ x.m = x.m /\ (relLe (noteS (SV.segs (SV.a ([Seg.c (SV.ro 215 x.y (rgL 0 x.extra)), Seg.r 43 1024 (List.replicate 1024 (0 : Int))] ++ SV.segs (SV.v (Value.int IntKind.u64 (IntKind.wrap IntKind.u64 x3.base))) ++ []))) x.rel) (noteS (SV.segs (SV.a ([Seg.c (SV.ro 215 x.y (rgL 0 x.extra)), Seg.r 43 1024 (List.replicate 1024 (0 : Int))] ++ SV.segs (SV.v (Value.int IntKind.u64 (IntKind.wrap IntKind.u64 x3.base))) ++ []))) x.rel)) /\ Rf x.rb /\ (x.y = x.y /\ Rf (rgL 0 x.extra)) /\ (Rf 1024 /\ setN (ints x5.2) (Int.toNat (x6.base - (0 : Int))) (fun x => (x5.1 : Int)) x10 = ints x11.2) /\ Rz /\ True)))
 (∃ x9 : Nat, x9 <= Int.toNat (IntKind.wrap IntKind.u32 (x6.base + shlI IntKind.u32 (1 : Int) x6.len) - (0 : Int)) - Int.toNat (x6.base - (0 : Int)) /\ (x6.base - (0 : Int) = (↑(Int.toNat (x6.base - (0 : Int)) + x9) : Int)) /\ x.m = x.m /\ (relLe (noteS (SV.segs (SV.a ([Seg.c (SV.ro 215 x.y (rgL 0 x.extra)), Seg.r 43 1024 (List.replicate 1024 (0 : Int))] ++ SV.segs (SV.v (Value.int IntKind.u64 (IntKind.wrap IntKind.u64 x3.base))) ++ []))) x.rel) (noteS (SV.segs (SV.a ([Seg.c (SV.ro 215 x.y (rgL 0 x.extra)), Seg.r 43 1024 (List.replicate 1024 (0 : Int))] ++ SV.segs (SV.v (Value.int IntKind.u64 (IntKind.wrap IntKind.u64 x3.base))) ++ []))) x.rel)) /\ Rf x.rb /\ (x.y = x.y /\ Rf (rgL 0 x.extra)) /\ (Rf 1024 /\ ints x5.2 = setN (ints x5.2) (Int.toNat (x6.base - (0 : Int))) (fun x => (x5.1 : Int)) x9) /\ Rz /\ x7 = x7 /\ Rf x6.base /\ Rf x6.len /\ x8 = x8 /\ Rf x6.base /\ Rf x6.len /\ ∀ x10 : Nat, ((x10 <= Int.toNat (IntKind.wrap IntKind.u32 (x6.base + shlI IntKind.u32 (1 : Int) x6.len) - (0 : Int)) - Int.toNat (x6.base - (0 : Int))) -> Br (decide ((↑(Int.toNat (x6.base - (0 : Int)) + x10) : Int) < IntKind.wrap IntKind.u32 (x6.base + shlI IntKind.u32 (1 : Int) x6.len) - (0 : Int))) ((inRange (↑(Int.toNat (x6.base - (0 : Int)) + x10) : Int) 1024) /\ (Rf x.rb /\ (Int.toNat (x6.base - (0 : Int)) + x10) < List.length (setN (ints x5.2) (Int.toNat (x6.base - (0 : Int))) (fun x => (x5.1 : Int)) x10)) /\ (inI64 ((↑(Int.toNat (x6.base - (0 : Int)) + x10) : Int) + (1 : Int))) /\ ∃ x11 : Nat, (x11 <= Int.toNat (IntKind.wrap IntKind.u32 (x6.base + shlI IntKind.u32 (1 : Int) x6.len) - (0 : Int)) - Int.toNat (x6.base - (0 : Int)) /\ Int.toNat (IntKind.wrap IntKind.u32 (x6.base + shlI IntKind.u32 (1 : Int) x6.len) - (0 : Int)) - Int.toNat (x6.base - (0 : Int)) - x11 < Int.toNat (IntKind.wrap IntKind.u32 (x6.base + shlI IntKind.u32 (1 : Int) x6.len) - (0 : Int)) - Int.toNat (x6.base - (0 : Int)) - x10) /\ ((↑(Int.toNat (x6.base - (0 : Int)) + x10) : Int) + (1 : Int) = (↑(Int.toNat (x6.base - (0 : Int)) + x11) : Int)) /\ x.m = x.m /\ (relLe (noteS (SV.segs (SV.a ([Seg.c (SV.ro 215 x.y (rgL 0 x.extra)), Seg.r 43 1024 (List.replicate 1024 (0 : Int))] ++ SV.segs (SV.v (Value.int IntKind.u64 (IntKind.wrap IntKind.u64 x3.base))) ++ []))) x.rel) (noteS (SV.segs (SV.a ([Seg.c (SV.ro 215 x.y (rgL 0 x.extra)), Seg.r 43 1024 (List.replicate 1024 (0 : Int))] ++ SV.segs (SV.v (Value.int IntKind.u64 (IntKind.wrap IntKind.u64 x3.base))) ++ []))) x.rel)) /\ Rf x.rb /\ (x.y = x.y /\ Rf (rgL 0 x.extra)) /\ (Rf 1024 /\ List.set (setN (ints x5.2) (Int.toNat (x6.base - (0 : Int))) (fun x => (x5.1 : Int)) x10) ((Int.toNat (x6.base - (0 : Int)) + x10)) (IntKind.wrap IntKind.u32 (x5.1 : Int)) = setN (ints x5.2) (Int.toNat (x6.base - (0 : Int))) (fun x => (x5.1 : Int)) x11) /\ Rz /\ x7 = x7 /\ Rf x6.base /\ Rf x6.len /\ x8 = x8 /\ Rf x6.base /\ Rf x6.len /\ True) (inI64 ((x5.1 : Int) + (1 : Int)) /\ ∃ x11 : Nat × List Nat, (ph63 x.extra x11.1 x11.2 /\ x.extra.length - x11.1 < x.extra.length - x5.1) /\
 (x5.1 : Int) + (1 : Int) = (x11.1 : Int) /\ x.m = x.m /\ (relLe (noteS (SV.segs (SV.a ([Seg.c (SV.ro 215 x.y (rgL 0 x.extra)), Seg.r 43 1024 (List.replicate 1024 (0 : Int))] ++ SV.segs (SV.v (Value.int IntKind.u64 (IntKind.wrap IntKind.u64 x3.base))) ++ []))) x.rel) (noteS (SV.segs (SV.a ([Seg.c (SV.ro 215 x.y (rgL 0 x.extra)), Seg.r 43 1024 (List.replicate 1024 (0 : Int))] ++ SV.segs (SV.v (Value.int IntKind.u64 (IntKind.wrap IntKind.u64 x3.base))) ++ []))) x.rel)) /\ Rf x.rb /\ (x.y = x.y /\ Rf (rgL 0 x.extra)) /\ (Rf 1024 /\ setN (ints x5.2) (Int.toNat (x6.base - (0 : Int))) (fun x => (x5.1 : Int)) x10 = ints x11.2) /\ Rz /\ True)))))) (∃ x6 : List Nat, lutOK x.extra x6 /\ x.m = x.m /\ (relLe x.rel (noteS (SV.segs (SV.a ([Seg.c (SV.ro 215 x.y (rgL 0 x.extra)), Seg.r 43 1024 (List.replicate 1024 (0 : Int))] ++ SV.segs (SV.v (Value.int IntKind.u64 (IntKind.wrap IntKind.u64 x3.base))) ++ []))) x.rel)) /\ Rf x.rb /\ (x.y = x.y /\ Rf (rgL 0 x.extra)) /\ (Rf 1024 /\ ints x5.2 = ints x6) /\ Rz /\ True))))
noncomputable def law_c63 (G : Gl) (x : X63) : VCT := fnx (CC G) (IN G b63 NA) (a63 x) Tryz.f63 (c63.args x) (c63.H x) (outK true 3 (c63.ret x)) (c63.pan x)
theorem eq_c63 (G : Gl) (x : X63) : cond_c63 G x = (law_c63 G x).den := by kernel_rfl
def cond_c120 (G : Gl) (extra : List Nat) (m : Fz) (rel : Rel TT) (rb : Nat) (g : GV) (v : Nat) : Prop :=
 (rb = rb /\ inI64 (IntKind.wrap IntKind.u64 ((↑v : Int) - (0 : Int))) /\ Br (decide (IntKind.wrap IntKind.u64 ((↑v : Int) - (0 : Int)) < (1024 : Int))) (inRange (IntKind.wrap IntKind.u64 ((↑v : Int) - (0 : Int))) 1024 /\ rb = rb /\ Int.toNat (IntKind.wrap IntKind.u64 ((↑v : Int) - (0 : Int))) < List.length (ints (GV.lut g)) /\ ∀ x1 : Int, (((ints (GV.lut g))[Int.toNat (IntKind.wrap IntKind.u64 ((↑v : Int) - (0 : Int)))]? = some x1) -> ∃ x2 : Nat, rgM extra v = some x2 /\ IntKind.wrap IntKind.u64 x1 = (x2 : Int) /\ m = m /\ relLe rel rel /\ rb = rb /\ (Rf (GV.y g) /\ Rf (rgL 0 extra)) /\ (Rf 1024 /\ Rf (ints (GV.lut g))) /\ Rz /\ True)) (inRange (1023 : Int) 1024 /\ rb = rb /\ (1023 : Nat) < List.length (ints (GV.lut g)) /\ ∀ x1 : Int, (((ints (GV.lut g))[(1023 : Nat)]? = some x1) -> inI64 (IntKind.wrap IntKind.u64 x1) /\ rb = rb /\ Br (decide (IntKind.wrap IntKind.u64 x1 >= (↑(List.length (rgL 0 extra)) : Int))) (∃ x2 : Nat, rgM extra v = some x2 /\ IntKind.wrap IntKind.u64 (IntKind.wrap IntKind.u64 x1 - (1 : Int)) = (x2 : Int) /\ m = m /\ relLe rel rel /\ rb = rb /\ (Rf (GV.y g) /\ Rf (rgL 0 extra)) /\ (Rf 1024 /\ Rf (ints (GV.lut g))) /\ Rz /\ True) (rb = rb /\ inRange (IntKind.wrap IntKind.u64 x1) (List.length (rgL 0 extra)) /\ Int.toNat (IntKind.wrap IntKind.u64 x1) < List.length (rgL 0 extra) /\ Int.toNat (IntKind.wrap IntKind.u64 x1) < List.length (rgL 0 extra) /\ ∀ x2 : Rg, (((rgL 0 extra)[Int.toNat (IntKind.wrap IntKind.u64 x1)]? = some x2) -> Br (decide (x2.base > IntKind.wrap IntKind.u32 (↑v : Int))) (∃ x3 : Nat, rgM extra v = some x3 /\ IntKind.wrap IntKind.u64 (IntKind.wrap IntKind.u64 x1 - (1 : Int)) = (x3 : Int) /\ m = m /\ relLe rel rel /\ rb = rb /\ (Rf (GV.y g) /\ Rf (rgL 0 extra)) /\ (Rf 1024 /\ Rf (ints (GV.lut g))) /\ Rz /\ True) (∃ x3 : Nat, (∃ i, rgM extra v = some i /\ x3 <= i + 1 /\ 1024 <= v) /\ IntKind.wrap IntKind.u64 (IntKind.wrap IntKind.u64 x1 + (1 : Int)) = (x3 : Int) /\ m = m /\ relLe rel rel /\ rb = rb /\ (Rf (GV.y g) /\ Rf (rgL 0 extra)) /\ (Rf 1024 /\ Rf (ints (GV.lut g))) /\ Rz /\ True)))))) /\ (∀ x1 : Nat, ((∃ i, rgM extra v = some i /\ x1 <= i + 1 /\ 1024 <= v) -> inI64 (x1 : Int) /\ rb = rb /\ Br (decide ((x1 : Int) >= (↑(List.length (rgL 0 extra)) : Int))) (∃ x2 : Nat, rgM extra v = some x2 /\ IntKind.wrap IntKind.u64 ((x1 : Int) - (1 : Int)) = (x2 : Int) /\ m = m /\ relLe rel rel /\ rb = rb /\ (Rf (GV.y g) /\ Rf (rgL 0 extra)) /\ (Rf 1024 /\ Rf (ints (GV.lut g))) /\ Rz /\ True) (rb = rb /\ inRange (x1 : Int) (List.length (rgL 0 extra)) /\ x1 < List.length (rgL 0 extra) /\ x1 < List.length (rgL 0 extra) /\ ∀ x2 : Rg, (((rgL 0 extra)[x1]? = some x2) -> Br (decide (x2.base > IntKind.wrap IntKind.u32 (↑v : Int))) (∃ x3 : Nat, rgM extra v = some x3 /\ IntKind.wrap IntKind.u64 ((x1 : Int) - (1 : Int)) = (x3 : Int) /\ m = m /\ relLe rel rel /\ rb = rb /\ (Rf (GV.y g) /\ Rf (rgL 0 extra)) /\ (Rf 1024 /\ Rf (ints (GV.lut g))) /\ Rz /\ True) (∃ x3 : Nat, ((∃ i, rgM extra v = some i /\ x3 <= i + 1 /\ 1024 <= v) /\ List.length extra + 1 - x3 < List.length extra + 1 - x1) /\
 IntKind.wrap IntKind.u64 ((x1 : Int) + (1 : Int)) = (x3 : Int) /\ m = m /\ relLe rel rel /\ rb = rb /\ (Rf (GV.y g) /\ Rf (rgL 0 extra)) /\ (Rf 1024 /\ Rf (ints (GV.lut g))) /\ Rz /\ True)))))
noncomputable def law_c120 (G : Gl) (extra : List Nat) (m : Fz) (rel : Rel TT) (rb : Nat) (g : GV) (v : Nat) : VCT := fnx (CC G) (IN G no NA) (a120 extra v) Tryz.f120 ((c120 extra).args (m, rel, rb, g, v)) ((c120 extra).H (m, rel, rb, g, v)) (outK true 3 ((c120 extra).ret (m, rel, rb, g, v))) ((c120 extra).pan (m, rel, rb, g, v))
theorem eq_c120 (G : Gl) (extra : List Nat) (m : Fz) (rel : Rel TT) (rb : Nat) (g : GV) (v : Nat) : cond_c120 G extra m rel rb g v = (law_c120 G extra m rel rb g v).den := by kernel_rfl
def cond_c67 (G : Gl) (B lens extra : List Nat) (x : (WS × Nat × EV) × Nat × Nat × GV) : Prop :=
 ∀ x1 : Fz, (exOK extra /\ lutOK extra (nats (ints x.2.2.2.lut)) /\ rgM extra x.2.1 ≠ none) /\ (Rf x.2.2.1 /\ Ro) /\ Rf (x.2.1 : Int) /\ x1 = x1 /\ Rl x.1.1.rel /\ Rf x.2.2.1 /\ (Rf x.2.2.2.y /\ Rf (rgL 0 extra)) /\ (Rf 1024 /\ ints x.2.2.2.lut = ints (nats (ints x.2.2.2.lut))) /\ Rz /\ ∀ x2 : Nat, ((rgM extra x.2.1 = some x2) -> x1 = x1 /\ ∀ x3 : Fz, (wsOK B (WS.mk x3 x.1.1.rel x.1.1.wb x.1.1.ob x.1.1.big x.1.1.off x.1.1.w x.1.1.b) /\ WV.tot x.1.1.w <= 4024 /\ Good lens /\ evOK lens (EV.mk x.1.2.2.y (Nat.log2 (((2 : Nat) ^ x.1.2.2.k - 1) + 1))) /\ x2 < List.length lens) /\ (Rf x.1.1.wb /\ Ro) /\ Rf (x2 : Int) /\ (Rf x.1.2.1 /\ Ro) /\ x3 = x3 /\ Rl x.1.1.rel /\ Rf x.1.1.wb /\ Rf (x.1.1.off : Int) /\ (Rf x.1.1.ob /\ Ro) /\ Rf (x.1.1.w.bits : Int) /\ Rf (x.1.1.w.num : Int) /\ Rf x.1.1.big /\ (Rf 512 /\ Rf x.1.1.w.arr) /\ Rf (x.1.1.w.cnt : Int) /\ Rf x.1.1.ob /\ (Rf x.1.1.b.x /\ Rf 0 /\ Rf x.1.1.b.n /\ Rf x.1.1.b.v) /\ Rz /\ Rf x.1.1.b.last /\ (Rf x.1.1.b.x /\ Rf x.1.1.b.l) /\ Rf x.1.2.1 /\ (Rf x.1.2.2.y /\ ints (encT lens ((2 : Nat) ^ x.1.2.2.k) (List.length lens)) = ints (encT lens ((2 : Nat) ^ Nat.log2 (((2 : Nat) ^ x.1.2.2.k - 1) + 1)) (List.length lens))) /\ ((↑((2 : Nat) ^ x.1.2.2.k - 1) : Int) = (↑((2 : Nat) ^ Nat.log2 (((2 : Nat) ^ x.1.2.2.k - 1) + 1) - 1) : Int)) /\ Rf (↑(List.length lens) : Int) /\ ∀ x4 : WV, ((wrt B (codeB lens x2) (WS.mk x3 x.1.1.rel x.1.1.wb x.1.1.ob x.1.1.big x.1.1.off x.1.1.w x.1.1.b) x4 /\ x4.num <= 27) -> x3 = x3 /\ Rf x.2.2.1 /\ inRange (x2 : Int) (List.length (rgL 0 extra)) /\ x2 < List.length (rgL 0 extra) /\ ∀ x5 : Rg, (((rgL 0 extra)[x2]? = some x5) -> ∀ x6 : Nat, x6 = x6 /\ x6 = x6 /\ x6 = x6 /\ ∃ x7 : Nat, ∀ x8 : Fz, (wsOK (B ++ codeB lens x7) (WS.mk x8 x.1.1.rel x.1.1.wb x.1.1.ob x.1.1.big x.1.1.off x4 x.1.1.b) /\ WV.tot x4 <= 4024 /\ Int.toNat (IntKind.wrap IntKind.u64 ((x.2.1 : Int) - IntKind.wrap IntKind.u64 x5.base)) < (2 : Nat) ^ Int.toNat (IntKind.wrap IntKind.u64 x5.len) /\ Int.toNat (IntKind.wrap IntKind.u64 x5.len) <= 57) /\ (Rf x.1.1.wb /\ Ro) /\ (IntKind.wrap IntKind.u64 ((x.2.1 : Int) - IntKind.wrap IntKind.u64 x5.base) = (↑(Int.toNat (IntKind.wrap IntKind.u64 ((x.2.1 : Int) - IntKind.wrap IntKind.u64 x5.base))) : Int)) /\ (IntKind.wrap IntKind.u64 x5.len = (↑(Int.toNat (IntKind.wrap IntKind.u64 x5.len)) : Int)) /\ x8 = x8 /\ Rl x.1.1.rel /\ Rf x.1.1.wb /\ Rf (x.1.1.off : Int) /\ (Rf x.1.1.ob /\ Ro) /\ Rf (x4.bits : Int) /\ Rf (x4.num : Int) /\ Rf x.1.1.big /\ (Rf 512 /\ Rf x4.arr) /\ Rf (x4.cnt : Int) /\ Rf x.1.1.ob /\ (Rf x.1.1.b.x /\ Rf 0 /\ Rf x.1.1.b.n /\ Rf x.1.1.b.v) /\ Rz /\ Rf x.1.1.b.last /\ (Rf x.1.1.b.x /\ Rf x.1.1.b.l) /\ ∀ x9 : WV, ((wrt (B ++ codeB lens x7) (nb (Int.toNat (IntKind.wrap IntKind.u64 ((x.2.1 : Int) - IntKind.wrap IntKind.u64 x5.base))) (Int.toNat (IntKind.wrap IntKind.u64 x5.len))) (WS.mk x8 x.1.1.rel x.1.1.wb x.1.1.ob x.1.1.big x.1.1.off x4 x.1.1.b) x9 /\ x9.num <= 7 + Int.toNat (IntKind.wrap IntKind.u64 x5.len)) -> x8 = x8 /\
 ∃ x10 : WV × Nat, (rgM extra x.2.1 = some x10.2 /\ wrt B (codeB lens x10.2 ++ nb (x.2.1 - sum2 (List.take x10.2 extra)) (List.getD extra x10.2 0)) x.1.1 x10.1 /\ x10.1.num <= 27) /\ Rf x.1.1.m /\ Rl x.1.1.rel /\ Rf x.1.1.wb /\ Rf (x.1.1.off : Int) /\ (Rf x.1.1.ob /\ Ro) /\ (x9.bits : Int) = (x10.1.bits : Int) /\ (x9.num : Int) = (x10.1.num : Int) /\ Rf x.1.1.big /\ (Rf 512 /\ x9.arr = x10.1.arr) /\ (x9.cnt : Int) = (x10.1.cnt : Int) /\ Rf x.1.1.ob /\ (Rf x.1.1.b.x /\ Rf 0 /\ Rf x.1.1.b.n /\ Rf x.1.1.b.v) /\ Rz /\ Rf x.1.1.b.last /\ (Rf x.1.1.b.x /\ Rf x.1.1.b.l) /\ Rf x.1.2.1 /\ (Rf x.1.2.2.y /\ ints (encT lens ((2 : Nat) ^ Nat.log2 (((2 : Nat) ^ x.1.2.2.k - 1) + 1)) (List.length lens)) = ints (encT lens ((2 : Nat) ^ x.1.2.2.k) (List.length lens))) /\ ((↑((2 : Nat) ^ Nat.log2 (((2 : Nat) ^ x.1.2.2.k - 1) + 1) - 1) : Int) = (↑((2 : Nat) ^ x.1.2.2.k - 1) : Int)) /\ Rf (↑(List.length lens) : Int) /\ Rf x.2.2.1 /\ (Rf x.2.2.2.y /\ Rf (rgL 0 extra)) /\ (Rf 1024 /\ ints (nats (ints x.2.2.2.lut)) = ints x.2.2.2.lut) /\ Rz /\ True))))
noncomputable def law_c67 (G : Gl) (B lens extra : List Nat) (x : (WS × Nat × EV) × Nat × Nat × GV) : VCT := fnx (CC G) (IN G (b67 B lens extra) NA) noAnn Tryz.f67 ((c67 B lens extra).args x) ((c67 B lens extra).H x) (outK true 7 ((c67 B lens extra).ret x)) ((c67 B lens extra).pan x)
theorem eq_c67 (G : Gl) (B lens extra : List Nat) (x : (WS × Nat × EV) × Nat × Nat × GV) : cond_c67 G B lens extra x = (law_c67 G B lens extra x).den := by kernel_rfl
theorem encT_len (lens : List Nat) (n i : Nat) : (encT lens n i).length = n := by simp [encT]
theorem encT_get {lens : List Nat} {n i j : Nat} (h : j < n) : (encT lens n i)[j]? = some (if j < i then codeV lens j * 32 + lens.getD j 0 else 0) := by
 unfold encT
 rw [List.getElem?_map, List.getElem?_range h, Option.map_some]
theorem encT_zero (lens : List Nat) (n : Nat) : encT lens n 0 = List.replicate n 0 := by
 apply List.ext_getElem?
 intro j
 by_cases h : j < n
 . rw [encT_get h, List.getElem?_replicate, if_pos h, if_neg (by omega)]
 . rw [List.getElem?_eq_none (by rw [encT_len]; omega), List.getElem?_eq_none (by rw [List.length_replicate]; omega)]
theorem encT_set {lens : List Nat} {n i : Nat} (h : i < n) : (encT lens n i).set i (codeV lens i * 32 + lens.getD i 0) = encT lens n (i + 1) := by
 apply List.ext_getElem?
 intro j
 rw [List.getElem?_set, encT_len]
 by_cases hj : i = j
 . subst hj
   rw [if_pos rfl, if_pos h, encT_get h, if_pos (by omega)]
 . rw [if_neg hj]
   by_cases hn : j < n
   . rw [encT_get hn, encT_get hn]
     congr 1
     by_cases h1 : j < i
     . rw [if_pos h1, if_pos (by omega)]
     . rw [if_neg h1, if_neg (by omega)]
   . rw [List.getElem?_eq_none (by rw [encT_len]; omega), List.getElem?_eq_none (by rw [encT_len]; omega)]
theorem pow6 {k : Nat} (h : k <= 6) : 0 < 2 ^ k /\ 2 ^ k <= 64 := ⟨Nat.pow_pos (by decide), Nat.le_trans (Nat.pow_le_pow_right (by decide) h) (by decide)⟩
theorem andM {j k : Nat} (hj : j < 2 ^ k) (hk : k <= 6) : bitI BinOp.and IntKind.u32 (j : Int) ((2 ^ k - 1 : Nat) : Int) = (j : Int) := by
 have := pow6 hk
 rw [andN rfl (by simp only [IntKind.bits]; omega) (by simp only [IntKind.bits]; omega), Nat.and_two_pow_sub_one_eq_mod, Nat.mod_eq_of_lt hj]
theorem set_same {l : List Int} {i : Nat} {x : Int} (h : l[i]? = some x) : l.set i x = l := by
 apply List.ext_getElem?
 intro j
 rw [List.getElem?_set]
 by_cases hj : i = j
 . subst hj
   rw [if_pos rfl, if_pos (List.getElem?_eq_some_iff.1 h).1, h]
 . rw [if_neg hj]
theorem chunkW {c n : Nat} (hc : c < 2 ^ 20) (hn : n <= 20) : bitI BinOp.or IntKind.u32 (shlI IntKind.u32 (c : Int) 5) (n : Int) = ((c * 32 + n : Nat) : Int) := by
 rw [show (5 : Int) = ((5 : Nat) : Int) from rfl, shlN rfl, show min 5 IntKind.u32.bits = 5 from rfl, Nat.mod_eq_of_lt (by simp only [IntKind.bits]; omega), orN rfl (by simp only [IntKind.bits]; omega) (by simp only [IntKind.bits]; omega), Nat.or_comm, or_add (n := 5) (by omega)]
 omega
theorem ok_c61 (G : Gl) (x : X61) (h : Good x.lens) : cond_c61 G x := by
 unfold cond_c61
 have h2 := h.two
 have h60 := h.sixty
 simp only [br_d, br_i, rel_self, true_and, and_true, inRange, inI64, Int.toNat_natCast, ints_len, canonL_len, List.length_replicate]
 refine ⟨fun hle => by omega, fun _ => ⟨by omega, 0, ⟨by omega, .inl rfl⟩, by simp, by simp; omega, fun t ht => ⟨fun hpos => ?_, fun hz _ => ?_⟩⟩⟩
 . have t5 : t <= 5 := by
     rcases Nat.lt_or_ge t 6 with h | h
     . omega
     . obtain rfl : t = 6 := by omega
       have : (x.lens.length - 1) / 2 ^ 6 = 0 := by omega
       rw [this] at hpos
       omega
   have hp := pow6 (k := t) (by omega)
   have hd : (x.lens.length - 1) / 2 ^ (t + 1) = (x.lens.length - 1) / 2 ^ t / 2 := by rw [Nat.pow_succ, Nat.div_div_eq_div_mul]
   refine ⟨by decide, by decide, t + 1, ⟨⟨by omega, .inr (by rw [Nat.add_sub_cancel]; omega)⟩, by rw [hd]; omega⟩, ?_, ?_⟩
   . unfold shlI
     rw [show min (Int.toNat 1) IntKind.i64.bits = 1 from rfl, Nat.pow_succ]
     rw [wrI (by omega) (by omega)]
     omega
   . rw [show (1 : Int) = ((1 : Nat) : Int) from rfl, shrN, show min 1 IntKind.i64.bits = 1 from rfl, hd, Nat.pow_one]
 . have hp := pow6 ht.1
   have hle : x.lens.length <= 2 ^ t := by
     have : (x.lens.length - 1) / 2 ^ t = 0 := by generalize (x.lens.length - 1) / 2 ^ t = q at hz ⊢; omega
     have := (Nat.div_eq_zero_iff_lt hp.1).1 this
     omega
   have hm : IntKind.u32.wrap (((2 ^ t : Nat) : Int) - 1) = ((2 ^ t - 1 : Nat) : Int) := by rw [wr32]; omega
   refine ⟨⟨by omega, by omega⟩, fun v _ => ⟨by omega, 0, by omega, rfl, fun i hi => ⟨fun hlt => ⟨by omega, by omega, by omega, i + 1, by omega, by omega, ?_⟩, fun _ => ⟨0, by omega, rfl, by rw [encT_zero], fun j hj => ⟨fun hlt => ⟨by omega, by omega, fun c hc b => ?_⟩, fun hge => ?_⟩⟩⟩⟩⟩
   . refine set_same ?_
     simp [ints, List.getElem?_replicate]; omega
   . obtain ⟨k, hk, rfl⟩ := canonL_get hc
     have hj' : j < x.lens.length := by omega
     have hgd : x.lens.getD j 0 = k := by rw [List.getD_eq_getElem?_getD, hk]; rfl
     have hcv : rev (nx x.lens k j) k = codeV x.lens j := by unfold codeV; rw [hgd]
     obtain ⟨c1, c2⟩ := codeV_lt h hj'
     rw [hgd] at c2
     have ha := andM (j := j) (k := t) (by omega) ht.1
     have he := encT_set (lens := x.lens) (n := 2 ^ t) (i := j) (by omega)
     rw [hgd] at he
     dsimp only
     simp only [hm, ha, encT_len, Int.toNat_natCast, hcv, chunkW c1 c2]
     refine ⟨by omega, by omega, fun z hz => ?_⟩
     obtain ⟨z', hz', rfl⟩ := ints_get hz
     rw [encT_get (by omega), if_neg (by omega)] at hz'
     obtain rfl := Option.some.inj hz'
     refine ⟨fun h => by omega, fun _ => ⟨by decide, by omega, by omega, by omega, j + 1, ⟨by omega, by omega⟩, by omega, ?_⟩⟩
     rw [<- he]
     simp [ints, List.map_set]
   . obtain rfl : j = x.lens.length := by omega
     rw [hm, encT_len]
     exact ⟨rfl, ⟨v, t⟩, ⟨hle, ht.1⟩, ⟨rfl, rfl⟩, rfl, wrId rfl (by simp only [IntKind.bits]; omega)⟩
theorem ok_c66 (G : Gl) (B lens : List Nat) (x : (WS × Nat × EV) × Nat) (h : (c66 B lens).phi x) : cond_c66 G B lens x := by
 unfold cond_c66
 obtain ⟨⟨x, eb, e⟩, i⟩ := x
 obtain ⟨h, h1, hg, he, hi⟩ := h
 dsimp only at h h1 hg he hi ⊢
 have ht : x.w.cnt <= 503 := by unfold WV.tot at h1; omega
 have hle := he.le
 have hp := pow6 he.k
 obtain ⟨c1, c2⟩ := codeV_lt hg hi
 have h60 := hg.sixty
 have ha := andM (j := i) (k := e.k) (by omega) he.k
 have hw : IntKind.u32.wrap (i : Int) = (i : Int) := wrId rfl (by simp only [IntKind.bits]; omega)
 simp only [rel_self, true_and, and_true, inRange, Int.toNat_natCast, hw, ha, encT_len, ints_len]
 refine fun m => ⟨⟨ws_any h m _, ht⟩, fun w hw => ⟨by omega, by omega, fun z hz => ?_⟩⟩
 obtain ⟨z', hz', rfl⟩ := ints_get hz
 rw [encT_get (by omega), if_pos hi] at hz'
 obtain rfl := Option.some.inj hz'
 obtain ⟨l1, l2⟩ := low31 (k := codeV lens i) (n := lens.getD i 0) (by omega) (by omega)
 have w5 : IntKind.u64.wrap ((codeV lens i : Nat) : Int) = ((codeV lens i : Nat) : Int) := wrId rfl (by simp only [IntKind.bits]; omega)
 have w6 : IntKind.u64.wrap ((lens.getD i 0 : Nat) : Int) = ((lens.getD i 0 : Nat) : Int) := wrId rfl (by simp only [IntKind.bits]; omega)
 have w1 := hw.num
 have w2 : wsOK B (x.put w) := ws_any (x := WS.put ⟨m, x.rel, x.wb, x.ob, x.big, x.off, x.w, x.b⟩ w) hw.ok x.m _
 have w3 : w.bits < 2 ^ w.num := w2.bits
 have w4 := hw.tot
 have hv : codeV lens i < 2 ^ lens.getD i 0 := rev_lt _ _
 rw [l1, l2, w5, w6]
 refine ⟨by decide, by omega, ⟨w.bits ||| (codeV lens i * 2 ^ w.num % 2 ^ 64), w.num + lens.getD i 0, w.arr, w.cnt⟩, ⟨⟨ws_add w2 hv (by omega), ?_⟩, by dsimp only; omega⟩, put_bits w3 (by omega), ?_, rfl, rfl⟩
 . rw [codeB, nb_len]
   unfold WV.tot at *
   dsimp only at *
   omega
 . rw [wr64]; dsimp only; omega
theorem rg_at {extra : List Nat} {i : Nat} {c : Rg} (h : (rgL 0 extra)[i]? = some c) : i < extra.length /\ c = ⟨((sum2 (extra.take i) : Nat) : Int), ((extra.getD i 0 : Nat) : Int)⟩ := by
 obtain ⟨n, hn, rfl⟩ := rgL_sum h
 have hi := (List.getElem?_eq_some_iff.1 hn).1
 refine ⟨hi, ?_⟩
 rw [List.getD_eq_getElem?_getD, hn, Nat.zero_add]; rfl
theorem sumB {extra : List Nat} (h : exOK extra) (i : Nat) : sum2 (extra.take i) <= 30 * 2 ^ 20 := by
 have hs := sum2_le (extra.take i) fun a ha => h.le a (List.mem_of_mem_take ha)
 rw [List.length_take] at hs
 have := h.len
 exact Nat.le_trans hs (Nat.mul_le_mul_right _ (by omega))
theorem exGet {extra : List Nat} (h : exOK extra) (i : Nat) : extra.getD i 0 <= 20 := by
 by_cases hi : i < extra.length
 . exact h.le _ (getD_mem hi)
 . rw [List.getD_eq_getElem?_getD, List.getElem?_eq_none (by omega)]; exact Nat.zero_le _
theorem endN {extra : List Nat} (h : exOK extra) {i : Nat} (hi : i < extra.length) : IntKind.u32.wrap (((sum2 (extra.take i) : Nat) : Int) + shlI IntKind.u32 1 ((extra.getD i 0 : Nat) : Int)) = ((sum2 (extra.take (i + 1)) : Nat) : Int) := by
 have h1 := exGet h i
 have h2 := sumB h i
 have hp : 2 ^ extra.getD i 0 <= 2 ^ 20 := Nat.pow_le_pow_right (by decide) h1
 rw [show (1 : Int) = ((1 : Nat) : Int) from rfl, shlN rfl, show min (extra.getD i 0) IntKind.u32.bits = extra.getD i 0 by simp only [IntKind.bits]; omega, Nat.one_mul, Nat.mod_eq_of_lt (by simp only [IntKind.bits]; omega), sum2_at hi, <- Int.natCast_add, wrId rfl (by simp only [IntKind.bits]; omega)]
theorem ok_c115 (G : Gl) (m : Fz) (rel : Rel TT) (y : Value) (extra : List Nat) (h : exOK extra /\ 0 < extra.length) : cond_c115 G m rel y extra := by
 unfold cond_c115
 obtain ⟨h, h0⟩ := h
 have hl := h.len
 simp only [br_d, br_i, rel_self, true_and, and_true, inRange, inI64, Int.toNat_natCast, rgL_len, List.length_drop, List.length_take]
 refine ⟨fun h1 => by omega, fun _ => ⟨by omega, by omega, fun c hc b => ⟨by omega, 0, by omega, rfl, ?_, ?_, fun i hi => ⟨fun hlt => ⟨by omega, by omega, fun c' hc' b1 b2 => ?_⟩, fun _ => ⟨(), trivial⟩⟩⟩⟩⟩
 . rw [(rg_at hc).2]
 . rw [(rg_at hc).2]
 . rw [List.getElem?_drop, List.getElem?_take_of_lt (by omega)] at hc'
   obtain ⟨hi', rfl⟩ := rg_at hc'
   have e1 := endN h (i := i) (by omega)
   have e2 := endN h (i := 1 + i) (by omega)
   have m1 := sum2_mono (l := extra) (i := i) (j := 1 + i) (by omega)
   have m2 := sum2_mono (l := extra) (i := 1 + i) (j := 1 + i + 1) (by omega)
   have e3 : i + 1 = 1 + i := by omega
   rw [e3] at e1
   dsimp only
   rw [e1, e2]
   exact ⟨by omega, rfl, fun _ => ⟨by omega, rfl, fun h1 => by omega, fun _ => ⟨fun h1 => by omega, fun _ => ⟨fun h1 => by omega, fun _ => ⟨by omega, 1 + i, by omega, by omega, rfl, rfl⟩⟩⟩⟩⟩
theorem rg_has {extra : List Nat} {j : Nat} : ∀ n, n <= extra.length -> j < sum2 (extra.take n) -> ∃ i, i < n /\ rgM extra j = some i
 | 0, _, h => by simp [sum2] at h
 | n + 1, hn, h => by
   by_cases h1 : j < sum2 (extra.take n)
   . obtain ⟨i, h2, h3⟩ := rg_has n (by omega) h1
     exact ⟨i, by omega, h3⟩
   . exact ⟨n, by omega, rgM_eq (by omega) (by omega) h⟩
theorem ok_c120 (G : Gl) (extra : List Nat) (m : Fz) (rel : Rel TT) (rb : Nat) (g : GV) (v : Nat) (h : (c120 extra).phi (m, rel, rb, g, v)) : cond_c120 G extra m rel rb g v := by
 unfold cond_c120
 obtain ⟨h, hlut, hne⟩ := h
 dsimp only at h hlut hne
 have hl := h.len
 have hll := hlut.len
 obtain ⟨i, hi⟩ : ∃ i, rgM extra v = some i := by
   cases hr : rgM extra v with
   | none => exact absurd hr hne
   | some i => exact ⟨i, rfl⟩
 obtain ⟨r1, r2, r3⟩ := rgM_some hi
 have hb := sumB h (i + 1)
 have w0 : IntKind.u64.wrap ((v : Int) - 0) = (v : Int) := by rw [Int.sub_zero]; exact wrId rfl (by simp only [IntKind.bits]; omega)
 have w1 : IntKind.u32.wrap (v : Int) = (v : Int) := wrId rfl (by simp only [IntKind.bits]; omega)
 have wi : ∀ k : Nat, k <= 100 -> IntKind.u64.wrap (k : Int) = (k : Int) := fun k hk => wrId rfl (by simp only [IntKind.bits]; omega)
 simp only [br_d, rel_self, true_and, and_true, inRange, inI64, Int.toNat_natCast, rgL_len, ints_len, w0, w1, hi, Option.some.injEq]
 refine ⟨⟨by omega, fun hlt => ⟨by omega, by omega, fun z hz => ?_⟩, fun hge => ⟨by omega, by omega, fun z hz => ?_⟩⟩, fun s hs => ?_⟩
 . obtain ⟨z', hz', rfl⟩ := ints_get hz
   rw [hlut.at_ v i (by omega) hi] at hz'
   obtain rfl := Option.some.inj hz'
   exact ⟨i, rfl, wi i (by omega)⟩
 . obtain ⟨z', hz', rfl⟩ := ints_get hz
   obtain ⟨i0, q1, q2⟩ := rg_has (extra := extra) (j := 1023) (i + 1) (by omega) (by omega)
   rw [hlut.at_ 1023 i0 (by omega) q2] at hz'
   obtain rfl := Option.some.inj hz'
   obtain ⟨p1, p2, p3⟩ := rgM_some q2
   rw [wi i0 (by omega)]
   refine ⟨by omega, fun h1 => by omega, fun _ => ⟨by omega, by simpa using p1, by simpa using p1, fun c hc => ?_⟩⟩
   rw [Int.toNat_natCast] at hc
   obtain ⟨_, rfl⟩ := rg_at hc
   exact ⟨fun h1 => by dsimp only at h1; omega, fun _ => ⟨i0 + 1, ⟨i, rfl, by omega, by omega⟩, by rw [wr64]; omega⟩⟩
 . obtain ⟨i', e1, s1, s2⟩ := hs
   subst e1
   refine ⟨by omega, fun h1 => ⟨i, rfl, by rw [wr64]; omega⟩, fun h1 => ⟨by omega, by omega, by omega, fun c hc => ?_⟩⟩
   obtain ⟨_, rfl⟩ := rg_at hc
   dsimp only
   refine ⟨fun h2 => ⟨i, rfl, ?_⟩, fun h2 => ?_⟩
   . have : i < s := by
       rcases Nat.lt_or_ge i s with h3 | h3
       . exact h3
       . have := sum2_mono (l := extra) h3; omega
     rw [wr64]; omega
   . have : s <= i := by
       rcases Nat.lt_or_ge i s with h3 | h3
       . have := sum2_mono (l := extra) (i := i + 1) (j := s) (by omega); omega
       . exact h3
     exact ⟨s + 1, ⟨⟨i, rfl, by omega, s2⟩, by omega⟩, by rw [wr64]; omega⟩
theorem log_mask {k : Nat} : (2 ^ k - 1 + 1).log2 = k := by
 rw [Nat.sub_add_cancel (Nat.pow_pos (by decide)), Nat.log2_two_pow]
theorem ok_c67 (G : Gl) (B lens extra : List Nat) (x : (WS × Nat × EV) × Nat × Nat × GV) (h : (c67 B lens extra).phi x) : cond_c67 G B lens extra x := by
 unfold cond_c67
 obtain ⟨⟨x, eb, e⟩, v, rb, g⟩ := x
 obtain ⟨⟨h, h1, hg, he⟩, hex, hlut, i, hi, hil⟩ := h
 dsimp only at h h1 hg he hex hlut hi ⊢
 have e3 : ∀ l : List Nat, nats (ints l) = l := nats_ints
 obtain ⟨r1, r2, r3⟩ := rgM_some hi
 have hb := sumB hex i
 have hgt := exGet hex i
 have hsi := sum2_at r1
 have hp : 2 ^ extra.getD i 0 <= 2 ^ 20 := Nat.pow_le_pow_right (by decide) hgt
 obtain ⟨c1, c2⟩ := codeV_lt hg hil
 simp only [e3, rel_self, true_and, and_true, inRange, Int.toNat_natCast, rgL_len, log_mask, hi, Option.some.injEq]
 refine fun m => ⟨⟨hex, hlut, by simp⟩, fun i' e1 => ?_⟩
 subst e1
 have h1' : WV.tot x.w <= 4024 := by omega
 refine fun m2 => ⟨⟨ws_any h m2 _, h1', hg, ⟨he.le, he.k⟩, hil⟩, fun w hw => ⟨by omega, r1, fun c hc b => ?_⟩⟩
 obtain ⟨_, rfl⟩ := rg_at hc
 have w3 : IntKind.u64.wrap ((sum2 (extra.take i) : Nat) : Int) = ((sum2 (extra.take i) : Nat) : Int) := wrId rfl (by simp only [IntKind.bits]; omega)
 have w4 : IntKind.u64.wrap ((v : Int) - ((sum2 (extra.take i) : Nat) : Int)) = ((v - sum2 (extra.take i) : Nat) : Int) := by rw [wr64]; omega
 have w5 : IntKind.u64.wrap ((extra.getD i 0 : Nat) : Int) = ((extra.getD i 0 : Nat) : Int) := wrId rfl (by simp only [IntKind.bits]; omega)
 simp only [w3, w4, w5, Int.toNat_natCast, true_and]
 obtain ⟨hw, hwn⟩ := hw
 have ht := hw.tot
 have hcl : (codeB lens i).length = lens.getD i 0 := nb_len _ _
 have k1 : wsOK (B ++ codeB lens i) (x.put w) := ws_any (x := WS.put ⟨m2, x.rel, x.wb, x.ob, x.big, x.off, x.w, x.b⟩ w) hw.ok x.m _
 refine ⟨i, fun m3 => ⟨⟨ws_any k1 m3 _, ?_, by omega, by omega⟩, fun z hz => ⟨(z, i), ⟨rfl, ⟨?_, ?_⟩, ?_⟩, rfl, rfl, rfl, rfl⟩⟩⟩
 . show WV.tot w <= 4024
   have ht : w.tot = x.w.tot + (codeB lens i).length := ht
   omega
 . rw [<- List.append_assoc]
   exact ws_any (x := WS.put ⟨m3, x.rel, x.wb, x.ob, x.big, x.off, w, x.b⟩ z) hz.1.ok x.m _
 . have e1 : z.tot = w.tot + (nb (v - sum2 (extra.take i)) (extra.getD i 0)).length := hz.1.tot
   have e2 : w.tot = x.w.tot + (codeB lens i).length := ht
   dsimp only
   rw [List.length_append, e1, e2]; omega
 . have := hz.2
   dsimp only at this ⊢
   omega
def setM (l : List Nat) (c v : Nat) : Nat -> List Nat
 | 0 => l
 | n + 1 => (setM l c v n).set (c + n) v
theorem setM_ints (l : List Nat) (c v : Nat) : ∀ n, setN (ints l) c (fun _ => (v : Int)) n = ints (setM l c v n)
 | 0 => rfl
 | n + 1 => by rw [setN, setM_ints l c v n, setM]; simp [ints, List.map_set]
theorem setM_get (l : List Nat) (c v : Nat) : ∀ n j, c + n <= l.length -> (setM l c v n)[j]? = if c <= j /\ j < c + n then some v else l[j]?
 | 0, j, _ => by rw [setM, if_neg (by omega)]
 | n + 1, j, h => by
   have hlen : ∀ n, (setM l c v n).length = l.length := fun n => by
     induction n with
     | zero => rfl
     | succ n ih => rw [setM, List.length_set, ih]
   rw [setM, List.getElem?_set, hlen, setM_get l c v n j (by omega)]
   by_cases h1 : c + n = j
   . rw [if_pos h1, if_pos (by omega), if_pos (by omega)]
   . rw [if_neg h1]
     by_cases h2 : c <= j /\ j < c + n
     . rw [if_pos h2, if_pos (by omega)]
     . rw [if_neg h2, if_neg (by omega)]
theorem setM_len (l : List Nat) (c v : Nat) : ∀ n, (setM l c v n).length = l.length
 | 0 => rfl
 | n + 1 => by rw [setM, List.length_set, setM_len l c v n]
theorem ph63_next {extra : List Nat} {i : Nat} {lut : List Nat} (h : ph63 extra i lut) (hi : i < extra.length) {n : Nat} (hn : sum2 (extra.take i) + n = min 1024 (sum2 (extra.take (i + 1)))) : ph63 extra (i + 1) (setM lut (sum2 (extra.take i)) i n) := by
 have hl := h.len
 refine ⟨hi, by rw [setM_len]; exact hl, fun j k hj hk hr => ?_⟩
 obtain ⟨r1, r2, r3⟩ := rgM_some hr
 rw [setM_get _ _ _ _ _ (by omega)]
 by_cases hki : k = i
 . subst hki
   rw [if_pos (by omega)]
 . have := sum2_mono (l := extra) (i := k + 1) (j := i) (by omega)
   rw [if_neg (by omega)]
   exact h.at_ j k hj (by omega) hr
theorem ok_c63 (G : Gl) (x : X63) (h : c63.phi x) : cond_c63 G x := by
 unfold cond_c63
 obtain ⟨h, h0⟩ := h
 have hl := h.len
 simp only [extraOf_rgL, br_d, rel_self, true_and, and_true, inRange, inI64, Int.toNat_natCast, rgL_len, ints_len, setN_len, Int.sub_zero]
 refine fun _ => ⟨⟨h, h0⟩, fun _ _ => ⟨by omega, by omega, by omega, fun c hc => ⟨(0, List.replicate 1024 0), ⟨Nat.zero_le _, by simp, fun j k _ hk => by omega⟩, rfl, by simp [ints], ?_, fun ⟨i, lut⟩ hy => ⟨fun hlt => ⟨by omega, by omega, fun c' hc' b => ?_⟩, fun hge => ?_⟩⟩⟩⟩
 . obtain ⟨_, rfl⟩ := rg_at hc
   dsimp only
   rw [List.take_zero]; rfl
 . dsimp only at hlt hc' hy ⊢
   obtain ⟨hi', rfl⟩ := rg_at hc'
   have e1 := endN h hi'
   have b1 := sumB h i
   have b2 := sumB h (i + 1)
   have hsi := sum2_at hi'
   have hp : 0 < 2 ^ x.extra.getD i 0 := Nat.pow_pos (by decide)
   have hlen := hy.len
   have wi : IntKind.u32.wrap (i : Int) = (i : Int) := wrId rfl (by simp only [IntKind.bits]; omega)
   simp only [e1, wi, Int.toNat_natCast]
   refine ⟨by omega, by omega, by omega, by omega, fun b2 => ⟨by omega, rfl, by omega, by omega, by omega, fun h1 => ⟨lut, ⟨hlen, fun j k hj hr => hy.at_ j k hj ?_ hr⟩, noteS_le _ _, rfl⟩, fun h1 => ⟨fun h2 => ?_, fun h2 => ?_⟩⟩⟩
   . obtain ⟨r1, r2, r3⟩ := rgM_some hr
     rcases Nat.lt_or_ge k i with h3 | h3
     . exact h3
     . have := sum2_mono (l := x.extra) h3; omega
   all_goals
     exact ⟨0, by omega, by omega, rfl, fun n hn => ⟨fun hlt => ⟨by omega, by omega, by omega, n + 1, by omega, by omega, rfl⟩, fun hge => ⟨by omega, ⟨(i + 1, setM lut (sum2 (x.extra.take i)) i n), ⟨ph63_next hy hi' (by omega), by dsimp only; omega⟩, by dsimp only; omega, setM_ints _ _ _ _⟩⟩⟩⟩
 . dsimp only at hy hge ⊢
   refine ⟨lut, ⟨hy.len, fun j k hj hr => hy.at_ j k hj ?_ hr⟩, noteS_le _ _, rfl⟩
   have := (rgM_some hr).1
   omega
theorem b61_ok (G : Gl) : ∀ f pt, b61 f = some pt -> SpecOK (CC G) f pt := by
 intro f pt h
 unfold b61 at h
 split at h
 . cases h; exact loc_ok (s114 G) _
 . cases h
theorem s61 (G : Gl) : SpecOK (CC G) 61 c61.pt := specE G (b61_ok G) (fn := Tryz.f61) rfl NA [2] c61 (fun x => a61 x.lens) fun x h => Met.of (eq_c61 G x) (ok_c61 G x h)
theorem s66 (G : Gl) (B lens : List Nat) : SpecOK (CC G) 66 (c66 B lens).pt := spec G (b65_ok G B) (fn := Tryz.f66) rfl NA (c66 B lens) (fun _ => noAnn) fun x h => Met.of (eq_c66 G B lens x) (ok_c66 G B lens x h)
theorem s115 (G : Gl) : SpecOK (CC G) 115 c115.pt := spec G (no_ok G) (fn := Tryz.f115) rfl NA c115 (fun x => a115 x.2.2.2) fun ⟨m, rel, y, extra⟩ h => Met.of (eq_c115 G m rel y extra) (ok_c115 G m rel y extra h)
theorem b63_ok (G : Gl) : ∀ f pt, b63 f = some pt -> SpecOK (CC G) f pt := by
 intro f pt h
 unfold b63 at h
 split at h
 . cases h; exact loc_ok (s115 G) _
 . cases h
theorem s63 (G : Gl) : SpecOK (CC G) 63 c63.pt := spec G (b63_ok G) (fn := Tryz.f63) rfl NA c63 a63 fun x h => Met.of (eq_c63 G x) (ok_c63 G x h)
theorem s120 (G : Gl) (extra : List Nat) : SpecOK (CC G) 120 (c120 extra).pt := spec G (no_ok G) (fn := Tryz.f120) rfl NA (c120 extra) (fun x => a120 extra x.2.2.2.2) fun ⟨m, rel, rb, g, v⟩ h => Met.of (eq_c120 G extra m rel rb g v) (ok_c120 G extra m rel rb g v h)
theorem b67_ok (G : Gl) (B lens extra : List Nat) : ∀ f pt, b67 B lens extra f = some pt -> SpecOK (CC G) f pt := by
 intro f pt h
 unfold b67 at h
 split at h
 . cases h; exact loc_ok (s120 G extra) _
 . cases h; exact loc_ok (s66 G B lens) _
 . cases h; exact exPT_ok 0 fun i => loc_ok (s65 G (B ++ codeB lens i)) _
 . cases h
theorem s67 (G : Gl) (B lens extra : List Nat) : SpecOK (CC G) 67 (c67 B lens extra).pt := spec G (b67_ok G B lens extra) (fn := Tryz.f67) rfl NA (c67 B lens extra) (fun _ => noAnn) fun x h => Met.of (eq_c67 G B lens extra x) (ok_c67 G B lens extra x h)
end Pc
/-
 codes and rangeCodes do what their contracts say.
-/
set_option linter.unusedVariables false
set_option maxRecDepth 100000
open Go Go.Vg Go.Proofs
namespace Pc
def cond_c62 (G : Gl) (m : Fz) (rel : Rel TT) (v : Value) (ns : List Nat) : Prop :=
 ∀ x1 : Nat, ∃ x2 : Nat × Value, x2.1 <= List.length ns /\ (Value.slice (some (Addr.mk x1 0 none)) 0 0 = x2.2 /\ 0 = x2.1) /\ (0 : Int) = (x2.1 : Int) /\ m = m /\ relLe rel rel /\ (Value.slice (some (Addr.mk x1 0 none)) 0 0 = x2.2 /\ [] = List.take x2.1 (canonL ns)) /\ ∀ x3 : Nat × Value, ((x3.1 <= List.length ns) -> Br (decide ((x3.1 : Int) < (↑(List.length (canonL ns)) : Int))) (inRange (x3.1 : Int) (List.length (canonL ns)) /\ x3.1 < List.length (canonL ns) /\ ∀ x4 : Cd, (((canonL ns)[x3.1]? = some x4) -> ∀ x5 : Nat, x5 = x5 /\ x5 = x5 /\ x5 = x5 /\ x5 = x5 /\ x5 = x5 /\ ∀ x6 : Nat, (Rf x3.2 /\ x3.1 = List.length (List.take x3.1 (canonL ns))) /\ (Rf (Value.slice (some (Addr.mk x6 0 none)) 1 1) /\ 1 = List.length [x4]) /\ room (List.length (List.take x3.1 (canonL ns)) + List.length [x4]) 16 /\ ∀ x7 : Value, inI64 ((x3.1 : Int) + (1 : Int)) /\ ∃ x8 : Nat × Value, (x8.1 <= List.length ns /\ List.length ns - x8.1 < List.length ns - x3.1) /\ (x7 = x8.2 /\ x3.1 + List.length [x4] = x8.1) /\ (x3.1 : Int) + (1 : Int) = (x8.1 : Int) /\ m = m /\ relLe rel (relAdd rel 210 (Value.slice (some (Addr.mk x6 0 none)) 1 1) [x4]) /\ (x7 = x8.2 /\ List.take x3.1 (canonL ns) ++ [x4] = List.take x8.1 (canonL ns)) /\ True)) ((Rf x3.2 /\ x3.1 = List.length (List.take x3.1 (canonL ns))) /\ ∃ x4 : Value, True /\ (x3.2 = x4 /\ List.take x3.1 (canonL ns) = canonL ns) /\ m = m /\ relLe rel rel /\ True))
noncomputable def law_c62 (G : Gl) (m : Fz) (rel : Rel TT) (v : Value) (ns : List Nat) : VCT := fnx (CC G) (IN G no NA) (a62 ns) Tryz.f62 (c62.args (m, rel, v, ns)) (c62.H (m, rel, v, ns)) (outK true 2 (c62.ret (m, rel, v, ns))) (c62.pan (m, rel, v, ns))
theorem eq_c62 (G : Gl) (m : Fz) (rel : Rel TT) (v : Value) (ns : List Nat) : cond_c62 G m rel v ns = (law_c62 G m rel v ns).den := by kernel_rfl
def cond_c64 (G : Gl) (m : Fz) (rel : Rel TT) (v : Value) (ns : List Nat) : Prop :=
 ∃ x1 : Nat × Value, x1.1 <= List.length ns /\ (Value.slice none 0 0 = x1.2 /\ 0 = x1.1) /\ (0 : Int) = (x1.1 : Int) /\ m = m /\ relLe rel rel /\ (Value.slice none 0 0 = x1.2 /\ [] = List.take x1.1 (rgL 0 ns)) /\ ∀ x2 : Nat × Value, ((x2.1 <= List.length ns) -> Br (decide ((x2.1 : Int) < (↑(List.length (rgL 0 ns)) : Int))) (inRange (x2.1 : Int) (List.length (rgL 0 ns)) /\ x2.1 < List.length (rgL 0 ns) /\ ∀ x3 : Rg, (((rgL 0 ns)[x2.1]? = some x3) -> ∀ x4 : Nat, x4 = x4 /\ x4 = x4 /\ x4 = x4 /\ ∀ x5 : Nat, (Rf x2.2 /\ x2.1 = List.length (List.take x2.1 (rgL 0 ns))) /\ (Rf (Value.slice (some (Addr.mk x5 0 none)) 1 1) /\ 1 = List.length [x3]) /\ room (List.length (List.take x2.1 (rgL 0 ns)) + List.length [x3]) 8 /\ ∀ x6 : Value, inI64 ((x2.1 : Int) + (1 : Int)) /\ ∃ x7 : Nat × Value, (x7.1 <= List.length ns /\ List.length ns - x7.1 < List.length ns - x2.1) /\ (x6 = x7.2 /\ x2.1 + List.length [x3] = x7.1) /\ (x2.1 : Int) + (1 : Int) = (x7.1 : Int) /\ m = m /\ relLe rel (relAdd rel 215 (Value.slice (some (Addr.mk x5 0 none)) 1 1) [x3]) /\ (x6 = x7.2 /\ List.take x2.1 (rgL 0 ns) ++ [x3] = List.take x7.1 (rgL 0 ns)) /\ True)) ((Rf x2.2 /\ x2.1 = List.length (List.take x2.1 (rgL 0 ns))) /\ ∃ x3 : Value, True /\ (x2.2 = x3 /\ List.take x2.1 (rgL 0 ns) = rgL 0 ns) /\ m = m /\ relLe rel rel /\ True))
noncomputable def law_c64 (G : Gl) (m : Fz) (rel : Rel TT) (v : Value) (ns : List Nat) : VCT := fnx (CC G) (IN G no NA) (a64 ns) Tryz.f64 (c64.args (m, rel, v, ns)) (c64.H (m, rel, v, ns)) (outK true 2 (c64.ret (m, rel, v, ns))) (c64.pan (m, rel, v, ns))
theorem eq_c64 (G : Gl) (m : Fz) (rel : Rel TT) (v : Value) (ns : List Nat) : cond_c64 G m rel v ns = (law_c64 G m rel v ns).den := by kernel_rfl
theorem ok_c62 (G : Gl) (m : Fz) (rel : Rel TT) (v : Value) (ns : List Nat) (h : ns.length <= 60) : cond_c62 G m rel v ns := by
 unfold cond_c62
 simp only [br_d, Int.toNat_natCast, canonL_len, List.length_take, List.length_cons, List.length_nil, inRange, inI64, room, rel_self, true_and, and_true]
 refine fun b => ⟨(0, _), Nat.zero_le _, ⟨rfl, rfl⟩, rfl, ⟨rfl, rfl⟩, fun y hy => ⟨fun h1 => ⟨by omega, by omega, fun c hc _ b2 => ⟨by omega, by omega, fun w => ⟨by omega, (y.1 + 1, w), ⟨by dsimp only; omega, by dsimp only; omega⟩, ⟨rfl, rfl⟩, by simp, relLe.add _ _ _ _, rfl, (take_succ hc).symm⟩⟩⟩, fun h1 => ⟨by omega, y.2, rfl, ?_⟩⟩⟩
 rw [List.take_of_length_le (by rw [canonL_len]; omega)]
theorem ok_c64 (G : Gl) (m : Fz) (rel : Rel TT) (v : Value) (ns : List Nat) (h : ns.length <= 30) : cond_c64 G m rel v ns := by
 unfold cond_c64
 simp only [br_d, Int.toNat_natCast, rgL_len, List.length_take, List.length_cons, List.length_nil, inRange, inI64, room, rel_self, true_and, and_true]
 refine ⟨(0, _), Nat.zero_le _, ⟨rfl, rfl⟩, rfl, ⟨rfl, rfl⟩, fun y hy => ⟨fun h1 => ⟨by omega, by omega, fun c hc _ b2 => ⟨by omega, by omega, fun w => ⟨by omega, (y.1 + 1, w), ⟨by dsimp only; omega, by dsimp only; omega⟩, ⟨rfl, rfl⟩, by simp, relLe.add _ _ _ _, rfl, (take_succ hc).symm⟩⟩⟩, fun h1 => ⟨by omega, y.2, rfl, ?_⟩⟩⟩
 rw [List.take_of_length_le (by rw [rgL_len]; omega)]
theorem s62 (G : Gl) : SpecOK (CC G) 62 c62.pt := spec G (no_ok G) (fn := Tryz.f62) rfl NA c62 (fun x => a62 x.2.2.2) fun ⟨m, rel, v, ns⟩ h => Met.of (eq_c62 G m rel v ns) (ok_c62 G m rel v ns h)
theorem s64 (G : Gl) : SpecOK (CC G) 64 c64.pt := spec G (no_ok G) (fn := Tryz.f64) rfl NA c64 (fun x => a64 x.2.2.2) fun ⟨m, rel, v, ns⟩ h => Met.of (eq_c64 G m rel v ns) (ok_c64 G m rel v ns h)
end Pc
