/-
 The program's WriteAll does what its contract says.
-/
import Derived.Test.YtdeidljffgahkaaGreatDoorWalk04
set_option linter.unusedVariables false
set_option maxRecDepth 100000
open Go Go.Vg Go.Proofs
namespace Pc
def cond_c59 (G : Gl) (ss : List (List Nat)) (x : X59) : Prop :=
 ∀ x1 x2 : Nat, Rf x.pg /\ x2 = x2 /\ ∀ x3 : Nat, Rf x.pc /\ Br (decide ((↑(List.length (canonL x.x.lens)) : Int) > (0 : Int))) (Rf x.pc /\ ∀ x4 : Fz, List.length (lensOf (canonL x.x.lens)) <= 60 /\ (Rf x.x.vc /\ canonL x.x.lens = canonL (lensOf (canonL x.x.lens))) /\ x4 = x4 /\ Rl x.x.rel /\ ∀ x5 : Value, (True -> x4 = x4 /\ ∀ x6 : Fz, Good (lensOf (canonL (lensOf (canonL x.x.lens)))) /\ (x3 = x3 /\ Ro) /\ (x5 = x5 /\ canonL (lensOf (canonL x.x.lens)) = canonL (lensOf (canonL (lensOf (canonL x.x.lens))))) /\ x6 = x6 /\ Rl x.x.rel /\ x3 = x3 /\ Rn /\ Rz /\ Rz /\ ∀ x7 : EV, ((evOK (lensOf (canonL (lensOf (canonL x.x.lens)))) x7) -> x6 = x6 /\ ∀ x8 : Nat, (Rf x.pr /\ Br (decide ((↑(List.length (rgL 0 x.x.extra)) : Int) > (0 : Int))) (Rf x.pr /\ ∀ x9 : Fz, List.length (extraOf (rgL 0 x.x.extra)) <= 30 /\ (Rf x.x.vr /\ rgL 0 x.x.extra = rgL 0 (extraOf (rgL 0 x.x.extra))) /\ x9 = x9 /\ Rl x.x.rel /\ ∀ x10 : Value, (True -> x9 = x9 /\ ∀ x11 : Fz, (exOK (extraOf (rgL 0 (extraOf (rgL 0 x.x.extra)))) /\ 0 < List.length (extraOf (rgL 0 (extraOf (rgL 0 x.x.extra))))) /\ (x8 = x8 /\ Ro) /\ (x10 = x10 /\ rgL 0 (extraOf (rgL 0 x.x.extra)) = rgL 0 (extraOf (rgL 0 (extraOf (rgL 0 x.x.extra))))) /\ x11 = x11 /\ Rl x.x.rel /\ x8 = x8 /\ Rn /\ (Rf 1024 /\ List.replicate 1024 (0 : Int) = zeros) /\ Rz /\ ∀ x12 : List Nat, ((lutOK (extraOf (rgL 0 (extraOf (rgL 0 x.x.extra)))) x12) -> x11 = x11 /\ ∃ x13 : GV, lutOK x.x.extra x13.lut /\ Rf x.x.m /\ Rl x.x.rel /\ Rf x.pg /\ Rf x.x.big /\ Rf x.pc /\ (Rf x.x.vc /\ Rf (canonL x.x.lens)) /\ Rf x.pr /\ (Rf x.x.vr /\ Rf (rgL 0 x.x.extra)) /\ Rf x.pl /\ (Rf x.x.vl /\ Rf x.x.l) /\ Rf x.pn /\ Rz /\ Rf x.pb /\ Rn /\ Rf x.pk /\ Rf false /\ x1 = x1 /\ Rn /\ Rz /\ Rz /\ x2 = x2 /\ Rz /\ (x1 = x1 /\ Ro) /\ Rz /\ Rz /\ Rf x.x.big /\ (Rf 512 /\ Rf (List.replicate 512 (0 : Int))) /\ Rz /\ x3 = x3 /\ (Rf x7.y /\ Rf (ints (encT (lensOf (canonL (lensOf (canonL x.x.lens)))) ((2 : Nat) ^ x7.k) (List.length (lensOf (canonL (lensOf (canonL x.x.lens)))))))) /\ (Rf (↑((2 : Nat) ^ x7.k - 1) : Int)) /\ (Rf (↑(List.length (lensOf (canonL (lensOf (canonL x.x.lens))))) : Int)) /\ x8 = x8 /\ (x10 = x13.y /\ rgL 0 (extraOf (rgL 0 (extraOf (rgL 0 x.x.extra)))) = rgL 0 x.x.extra) /\ (Rf 1024 /\ ints x12 = ints x13.lut) /\ Rz /\ True))) (∃ x9 : GV, lutOK x.x.extra x9.lut /\ Rf x.x.m /\ Rl x.x.rel /\ Rf x.pg /\ Rf x.x.big /\ Rf x.pc /\ (Rf x.x.vc /\ Rf (canonL x.x.lens)) /\ Rf x.pr /\ (Rf x.x.vr /\ Rf (rgL 0 x.x.extra)) /\ Rf x.pl /\ (Rf x.x.vl /\ Rf x.x.l) /\ Rf x.pn /\ Rz /\ Rf x.pb /\ Rn /\ Rf x.pk /\ Rf false /\ x1 = x1 /\ Rn /\ Rz /\ Rz /\ x2 = x2 /\ Rz /\ (x1 = x1 /\ Ro) /\ Rz /\ Rz /\ Rf x.x.big /\ (Rf 512 /\ Rf (List.replicate 512 (0 : Int))) /\ Rz /\ x3 = x3 /\ (Rf x7.y /\ Rf (ints (encT (lensOf (canonL (lensOf (canonL x.x.lens)))) ((2 : Nat) ^ x7.k) (List.length (lensOf (canonL (lensOf (canonL x.x.lens)))))))) /\ (Rf (↑((2 : Nat) ^ x7.k - 1) : Int)) /\ (Rf (↑(List.length (lensOf (canonL (lensOf (canonL x.x.lens))))) : Int)) /\ x8 = x8 /\ (Rn /\ Value.slice none 0 0 = x9.y /\ rgL 0 x.x.extra = []) /\ (Rf 1024 /\ List.replicate 1024 (0 : Int) = ints x9.lut) /\ Rz /\ True)) /\
 (∀ x9 : GV, ((lutOK x.x.extra x9.lut) -> Rf x.pl /\ ∃ x10 : Y59, ph59 ss x.x (ws59 x x1 x2) x10 /\ (0 : Int) = (x10.i : Int) /\ Rf x.x.m /\ Rl x.x.rel /\ Rf x.pg /\ Rf x.x.big /\ Rf x.pc /\ (Rf x.x.vc /\ Rf (canonL x.x.lens)) /\ Rf x.pr /\ (Rf x.x.vr /\ Rf (rgL 0 x.x.extra)) /\ Rf x.pl /\ (Rf x.x.vl /\ Rf x.x.l) /\ Rf x.pn /\ Rz /\ Rf x.pb /\ Rn /\ Rf x.pk /\ Rf false /\ x1 = x1 /\ (Value.slice none 0 0 = x10.b.x /\ Rf 0 /\ 0 = x10.b.n /\ Value.slice none 0 0 = x10.b.v) /\ Rz /\ (0 : Int) = x10.b.last /\ x2 = x2 /\ (0 : Int) = (x10.off : Int) /\ (x1 = x1 /\ Ro) /\ (0 : Int) = (x10.w.bits : Int) /\ (0 : Int) = (x10.w.num : Int) /\ Rf x.x.big /\ (Rf 512 /\ List.replicate 512 (0 : Int) = x10.w.arr) /\ (0 : Int) = (x10.w.cnt : Int) /\ x3 = x3 /\ (Rf x7.y /\ Rf (ints (encT (lensOf (canonL (lensOf (canonL x.x.lens)))) ((2 : Nat) ^ x7.k) (List.length (lensOf (canonL (lensOf (canonL x.x.lens)))))))) /\ (Rf (↑((2 : Nat) ^ x7.k - 1) : Int)) /\ (Rf (↑(List.length (lensOf (canonL (lensOf (canonL x.x.lens))))) : Int)) /\ x8 = x8 /\ (Rf x9.y /\ Rf (rgL 0 x.x.extra)) /\ (Rf 1024 /\ Rf (ints x9.lut)) /\ Rz /\ (Value.slice none 0 0 = x10.b.x /\ [] = x10.b.l) /\ ∀ x11 : Y59, ((ph59 ss x.x (ws59 x x1 x2) x11) -> Br (decide ((x11.i : Int) < (x.x.l.length : Int))) (inRange (x11.i : Int) x.x.l.length /\ x11.i < x.x.l.length /\ ∀ x12 : Pt, ((x.x.l[x11.i]? = some x12) -> ∀ x13 : Nat, x13 = x13 /\ x13 = x13 /\ Br (x12.kind == (0 : Int)) (x13 = x13 /\ x13 = x13 /\ ∃ x14 : List Nat, ∀ x15 : Fz, (wsOK x14 (WS.mk x15 x.x.rel x2 x1 x.x.big x11.off x11.w x11.b) /\ WV.tot x11.w <= 4024 /\ x12.v.toNat < (2 : Nat) ^ x12.n.toNat /\ x12.n.toNat <= 57) /\ (x2 = x2 /\ Ro) /\ x12.v = (x12.v.toNat : Int) /\ x12.n = (x12.n.toNat : Int) /\ x15 = x15 /\ Rl x.x.rel /\ x2 = x2 /\ Rf (x11.off : Int) /\ (x1 = x1 /\ Ro) /\ Rf (x11.w.bits : Int) /\ Rf (x11.w.num : Int) /\ Rf x.x.big /\ (Rf 512 /\ Rf x11.w.arr) /\ Rf (x11.w.cnt : Int) /\ x1 = x1 /\ (Rf x11.b.x /\ Rf 0 /\ Rf x11.b.n /\ Rf x11.b.v) /\ Rz /\ Rf x11.b.last /\ (Rf x11.b.x /\ Rf x11.b.l) /\ ∀ x16 : WV, ((wrt x14 (nb x12.v.toNat x12.n.toNat) (WS.mk x15 x.x.rel x2 x1 x.x.big x11.off x11.w x11.b) x16 /\ x16.num <= 7 + x12.n.toNat) -> x15 = x15 /\ inI64 ((x11.i : Int) + (1 : Int)) /\ ∃ x17 : Y59, (ph59 ss x.x (ws59 x x1 x2) x17 /\ x.x.l.length - x17.i < x.x.l.length - x11.i) /\ (x11.i : Int) + (1 : Int) = (x17.i : Int) /\ Rf x.x.m /\ Rl x.x.rel /\ Rf x.pg /\ Rf x.x.big /\ Rf x.pc /\ (Rf x.x.vc /\ Rf (canonL x.x.lens)) /\ Rf x.pr /\ (Rf x.x.vr /\ Rf (rgL 0 x.x.extra)) /\ Rf x.pl /\ (Rf x.x.vl /\ Rf x.x.l) /\ Rf x.pn /\ Rz /\ Rf x.pb /\ Rn /\ Rf x.pk /\ Rf false /\ x1 = x1 /\ (x11.b.x = x17.b.x /\ Rf 0 /\ x11.b.n = x17.b.n /\ x11.b.v = x17.b.v) /\ Rz /\ x11.b.last = x17.b.last /\ x2 = x2 /\ (x11.off : Int) = (x17.off : Int) /\ (x1 = x1 /\ Ro) /\ (x16.bits : Int) = (x17.w.bits : Int) /\ (x16.num : Int) = (x17.w.num : Int) /\ Rf x.x.big /\ (Rf 512 /\ x16.arr = x17.w.arr) /\ (x16.cnt : Int) = (x17.w.cnt : Int) /\ x3 = x3 /\ (Rf x7.y /\ Rf (ints (encT (lensOf (canonL (lensOf (canonL x.x.lens)))) ((2 : Nat) ^ x7.k) (List.length (lensOf (canonL (lensOf (canonL x.x.lens)))))))) /\
 (Rf (↑((2 : Nat) ^ x7.k - 1) : Int)) /\ (Rf (↑(List.length (lensOf (canonL (lensOf (canonL x.x.lens))))) : Int)) /\ x8 = x8 /\ (Rf x9.y /\ Rf (rgL 0 x.x.extra)) /\ (Rf 1024 /\ Rf (ints x9.lut)) /\ Rz /\ (x11.b.x = x17.b.x /\ x11.b.l = x17.b.l) /\ True)) (Br (x12.kind == (1 : Int)) (x13 = x13 /\ ∃ x14 : List Nat × List Nat, ∀ x15 : Fz, (wsOK x14.1 (WS.mk x15 x.x.rel x2 x1 x.x.big x11.off x11.w x11.b) /\ WV.tot x11.w <= 4024 /\ Good x14.2 /\ evOK x14.2 (EV.mk x7.y (Nat.log2 (((2 : Nat) ^ x7.k - 1) + 1))) /\ x12.v.toNat < x14.2.length) /\ (x2 = x2 /\ Ro) /\ x12.v = (x12.v.toNat : Int) /\ (x3 = x3 /\ Ro) /\ x15 = x15 /\ Rl x.x.rel /\ x2 = x2 /\ Rf (x11.off : Int) /\ (x1 = x1 /\ Ro) /\ Rf (x11.w.bits : Int) /\ Rf (x11.w.num : Int) /\ Rf x.x.big /\ (Rf 512 /\ Rf x11.w.arr) /\ Rf (x11.w.cnt : Int) /\ x1 = x1 /\ (Rf x11.b.x /\ Rf 0 /\ Rf x11.b.n /\ Rf x11.b.v) /\ Rz /\ Rf x11.b.last /\ (Rf x11.b.x /\ Rf x11.b.l) /\ x3 = x3 /\ (Rf x7.y /\ ints (encT (lensOf (canonL (lensOf (canonL x.x.lens)))) ((2 : Nat) ^ x7.k) (List.length (lensOf (canonL (lensOf (canonL x.x.lens)))))) = ints (encT x14.2 ((2 : Nat) ^ Nat.log2 (((2 : Nat) ^ x7.k - 1) + 1)) x14.2.length)) /\ ((↑((2 : Nat) ^ x7.k - 1) : Int) = (↑((2 : Nat) ^ Nat.log2 (((2 : Nat) ^ x7.k - 1) + 1) - 1) : Int)) /\ ((↑(List.length (lensOf (canonL (lensOf (canonL x.x.lens))))) : Int) = (x14.2.length : Int)) /\ ∀ x16 : WV, ((wrt x14.1 (codeB x14.2 x12.v.toNat) (WS.mk x15 x.x.rel x2 x1 x.x.big x11.off x11.w x11.b) x16 /\ x16.num <= 27) -> x15 = x15 /\ inI64 ((x11.i : Int) + (1 : Int)) /\ ∃ x17 : Y59, (ph59 ss x.x (ws59 x x1 x2) x17 /\ x.x.l.length - x17.i < x.x.l.length - x11.i) /\ (x11.i : Int) + (1 : Int) = (x17.i : Int) /\ Rf x.x.m /\ Rl x.x.rel /\ Rf x.pg /\ Rf x.x.big /\ Rf x.pc /\ (Rf x.x.vc /\ Rf (canonL x.x.lens)) /\ Rf x.pr /\ (Rf x.x.vr /\ Rf (rgL 0 x.x.extra)) /\ Rf x.pl /\ (Rf x.x.vl /\ Rf x.x.l) /\ Rf x.pn /\ Rz /\ Rf x.pb /\ Rn /\ Rf x.pk /\ Rf false /\ x1 = x1 /\ (x11.b.x = x17.b.x /\ Rf 0 /\ x11.b.n = x17.b.n /\ x11.b.v = x17.b.v) /\ Rz /\ x11.b.last = x17.b.last /\ x2 = x2 /\ (x11.off : Int) = (x17.off : Int) /\ (x1 = x1 /\ Ro) /\ (x16.bits : Int) = (x17.w.bits : Int) /\ (x16.num : Int) = (x17.w.num : Int) /\ Rf x.x.big /\ (Rf 512 /\ x16.arr = x17.w.arr) /\ (x16.cnt : Int) = (x17.w.cnt : Int) /\ x3 = x3 /\ (Rf x7.y /\ ints (encT x14.2 ((2 : Nat) ^ Nat.log2 (((2 : Nat) ^ x7.k - 1) + 1)) x14.2.length) = ints (encT (lensOf (canonL (lensOf (canonL x.x.lens)))) ((2 : Nat) ^ x7.k) (List.length (lensOf (canonL (lensOf (canonL x.x.lens))))))) /\ ((↑((2 : Nat) ^ Nat.log2 (((2 : Nat) ^ x7.k - 1) + 1) - 1) : Int) = (↑((2 : Nat) ^ x7.k - 1) : Int)) /\ ((x14.2.length : Int) = (↑(List.length (lensOf (canonL (lensOf (canonL x.x.lens))))) : Int)) /\ x8 = x8 /\ (Rf x9.y /\ Rf (rgL 0 x.x.extra)) /\ (Rf 1024 /\ Rf (ints x9.lut)) /\ Rz /\ (x11.b.x = x17.b.x /\ x11.b.l = x17.b.l) /\ True)) (Br (x12.kind == (2 : Int))
 (x13 = x13 /\ ∃ x14 : List Nat × List Nat × List Nat, ∀ x15 : Fz, ((wsOK x14.1 (WS.mk x15 x.x.rel x2 x1 x.x.big x11.off x11.w x11.b) /\ WV.tot x11.w <= 4000 /\ Good x14.2.1 /\ evOK x14.2.1 (EV.mk x7.y (Nat.log2 (((2 : Nat) ^ x7.k - 1) + 1)))) /\ exOK x14.2.2 /\ lutOK x14.2.2 (nats (ints x9.lut)) /\ ∃ i, rgM x14.2.2 (Prod.fst (Prod.snd ((fun x => (x, x12.v.toNat, x8, GV.mk x9.y (nats (ints x9.lut)))) ((fun x_1 => (x_1, X61.eb (X61.mk x6 (Prod.fst (Prod.snd (x4, x.x.rel, x.x.vc, lensOf (canonL x.x.lens)))) x3 x5 (lensOf (canonL (Prod.snd (Prod.snd (Prod.snd (x4, x.x.rel, x.x.vc, lensOf (canonL x.x.lens)))))))), EV.mk x7.y (Nat.log2 (((2 : Nat) ^ x7.k - 1) + 1)))) (WS.mk x15 (X61.rel (X61.mk x6 (Prod.fst (Prod.snd (x4, x.x.rel, x.x.vc, lensOf (canonL x.x.lens)))) x3 x5 (lensOf (canonL (Prod.snd (Prod.snd (Prod.snd (x4, x.x.rel, x.x.vc, lensOf (canonL x.x.lens))))))))) x2 x1 x.x.big x11.off x11.w x11.b))))) = some i /\ i < x14.2.1.length) /\ (x2 = x2 /\ Ro) /\ x12.v = (x12.v.toNat : Int) /\ (x3 = x3 /\ Ro) /\ (x8 = x8 /\ Ro) /\ x15 = x15 /\ Rl x.x.rel /\ x2 = x2 /\ Rf (x11.off : Int) /\ (x1 = x1 /\ Ro) /\ Rf (x11.w.bits : Int) /\ Rf (x11.w.num : Int) /\ Rf x.x.big /\ (Rf 512 /\ Rf x11.w.arr) /\ Rf (x11.w.cnt : Int) /\ x1 = x1 /\ (Rf x11.b.x /\ Rf 0 /\ Rf x11.b.n /\ Rf x11.b.v) /\ Rz /\ Rf x11.b.last /\ (Rf x11.b.x /\ Rf x11.b.l) /\ x3 = x3 /\ (Rf x7.y /\ ints (encT (lensOf (canonL (lensOf (canonL x.x.lens)))) ((2 : Nat) ^ x7.k) (List.length (lensOf (canonL (lensOf (canonL x.x.lens)))))) = ints (encT x14.2.1 ((2 : Nat) ^ Nat.log2 (((2 : Nat) ^ x7.k - 1) + 1)) x14.2.1.length)) /\ ((↑((2 : Nat) ^ x7.k - 1) : Int) = (↑((2 : Nat) ^ Nat.log2 (((2 : Nat) ^ x7.k - 1) + 1) - 1) : Int)) /\ ((↑(List.length (lensOf (canonL (lensOf (canonL x.x.lens))))) : Int) = (x14.2.1.length : Int)) /\ x8 = x8 /\ (Rf x9.y /\ rgL 0 x.x.extra = rgL 0 x14.2.2) /\ (Rf 1024 /\ ints x9.lut = ints (nats (ints x9.lut))) /\ Rz /\ ∀ x16 : WV × Nat, ((rgM x14.2.2 x12.v.toNat = some x16.2 /\ wrt x14.1 (codeB x14.2.1 x16.2 ++ nb (x12.v.toNat - sum2 (List.take x16.2 x14.2.2)) (List.getD x14.2.2 x16.2 0)) (WS.mk x15 x.x.rel x2 x1 x.x.big x11.off x11.w x11.b) x16.1 /\ x16.1.num <= 27) -> x15 = x15 /\ inI64 ((x11.i : Int) + (1 : Int)) /\ ∃ x17 : Y59, (ph59 ss x.x (ws59 x x1 x2) x17 /\ x.x.l.length - x17.i < x.x.l.length - x11.i) /\ (x11.i : Int) + (1 : Int) = (x17.i : Int) /\ Rf x.x.m /\ Rl x.x.rel /\ Rf x.pg /\ Rf x.x.big /\ Rf x.pc /\ (Rf x.x.vc /\ Rf (canonL x.x.lens)) /\ Rf x.pr /\ (Rf x.x.vr /\ Rf (rgL 0 x.x.extra)) /\ Rf x.pl /\ (Rf x.x.vl /\ Rf x.x.l) /\ Rf x.pn /\ Rz /\ Rf x.pb /\ Rn /\ Rf x.pk /\ Rf false /\ x1 = x1 /\ (x11.b.x = x17.b.x /\ Rf 0 /\ x11.b.n = x17.b.n /\ x11.b.v = x17.b.v) /\ Rz /\ x11.b.last = x17.b.last /\ x2 = x2 /\ (x11.off : Int) = (x17.off : Int) /\ (x1 = x1 /\ Ro) /\ (x16.1.bits : Int) = (x17.w.bits : Int) /\ (x16.1.num : Int) = (x17.w.num : Int) /\ Rf x.x.big /\ (Rf 512 /\ x16.1.arr = x17.w.arr) /\ (x16.1.cnt : Int) = (x17.w.cnt : Int) /\ x3 = x3 /\
 (Rf x7.y /\ ints (encT x14.2.1 ((2 : Nat) ^ Nat.log2 (((2 : Nat) ^ x7.k - 1) + 1)) x14.2.1.length) = ints (encT (lensOf (canonL (lensOf (canonL x.x.lens)))) ((2 : Nat) ^ x7.k) (List.length (lensOf (canonL (lensOf (canonL x.x.lens))))))) /\ ((↑((2 : Nat) ^ Nat.log2 (((2 : Nat) ^ x7.k - 1) + 1) - 1) : Int) = (↑((2 : Nat) ^ x7.k - 1) : Int)) /\ ((x14.2.1.length : Int) = (↑(List.length (lensOf (canonL (lensOf (canonL x.x.lens))))) : Int)) /\ x8 = x8 /\ (Rf x9.y /\ rgL 0 x14.2.2 = rgL 0 x.x.extra) /\ (Rf 1024 /\ ints (nats (ints x9.lut)) = ints x9.lut) /\ Rz /\ (x11.b.x = x17.b.x /\ x11.b.l = x17.b.l) /\ True)) (Br (x12.kind == (3 : Int)) (x13 = x13 /\ ∃ x14 : List Nat, ∀ x15 : Fz, (wsOK x14 (WS.mk x15 x.x.rel x2 x1 x.x.big x11.off x11.w x11.b) /\ x11.w.num <= 57 /\ x12.v.toNat < (2 : Nat) ^ padN x14.length) /\ (x2 = x2 /\ Ro) /\ x12.v = (x12.v.toNat : Int) /\ x15 = x15 /\ Rl x.x.rel /\ x2 = x2 /\ Rf (x11.off : Int) /\ (x1 = x1 /\ Ro) /\ Rf (x11.w.bits : Int) /\ Rf (x11.w.num : Int) /\ Rf x.x.big /\ (Rf 512 /\ Rf x11.w.arr) /\ Rf (x11.w.cnt : Int) /\ x1 = x1 /\ (Rf x11.b.x /\ Rf 0 /\ Rf x11.b.n /\ Rf x11.b.v) /\ Rz /\ Rf x11.b.last /\ (Rf x11.b.x /\ Rf x11.b.l) /\ ∀ x16 : WV, ((wrt x14 (nb x12.v.toNat (padN x14.length)) (WS.mk x15 x.x.rel x2 x1 x.x.big x11.off x11.w x11.b) x16 /\ x16.cnt = x11.w.cnt) -> x15 = x15 /\ inI64 ((x11.i : Int) + (1 : Int)) /\ ∃ x17 : Y59, (ph59 ss x.x (ws59 x x1 x2) x17 /\ x.x.l.length - x17.i < x.x.l.length - x11.i) /\ (x11.i : Int) + (1 : Int) = (x17.i : Int) /\ Rf x.x.m /\ Rl x.x.rel /\ Rf x.pg /\ Rf x.x.big /\ Rf x.pc /\ (Rf x.x.vc /\ Rf (canonL x.x.lens)) /\ Rf x.pr /\ (Rf x.x.vr /\ Rf (rgL 0 x.x.extra)) /\ Rf x.pl /\ (Rf x.x.vl /\ Rf x.x.l) /\ Rf x.pn /\ Rz /\ Rf x.pb /\ Rn /\ Rf x.pk /\ Rf false /\ x1 = x1 /\ (x11.b.x = x17.b.x /\ Rf 0 /\ x11.b.n = x17.b.n /\ x11.b.v = x17.b.v) /\ Rz /\ x11.b.last = x17.b.last /\ x2 = x2 /\ (x11.off : Int) = (x17.off : Int) /\ (x1 = x1 /\ Ro) /\ (x16.bits : Int) = (x17.w.bits : Int) /\ (x16.num : Int) = (x17.w.num : Int) /\ Rf x.x.big /\ (Rf 512 /\ x16.arr = x17.w.arr) /\ (x16.cnt : Int) = (x17.w.cnt : Int) /\ x3 = x3 /\ (Rf x7.y /\ Rf (ints (encT (lensOf (canonL (lensOf (canonL x.x.lens)))) ((2 : Nat) ^ x7.k) (List.length (lensOf (canonL (lensOf (canonL x.x.lens)))))))) /\ (Rf (↑((2 : Nat) ^ x7.k - 1) : Int)) /\ (Rf (↑(List.length (lensOf (canonL (lensOf (canonL x.x.lens))))) : Int)) /\ x8 = x8 /\ (Rf x9.y /\ Rf (rgL 0 x.x.extra)) /\ (Rf 1024 /\ Rf (ints x9.lut)) /\ Rz /\ (x11.b.x = x17.b.x /\ x11.b.l = x17.b.l) /\ True)) (Br (x12.kind == (4 : Int)) (x13 = x13 /\ ∃ x14 : List Nat, ∃ x15 : (List (Tys.El TT 5)), isRo x.x.rel 5 (Value.slice x12.s.A x12.s.n x12.s.cap) x15 /\ ((x12.s.n = x15.length) ->
 ∀ x16 : Fz, (wsOK x14 (WS.mk x16 x.x.rel x2 x1 x.x.big x11.off x11.w x11.b) /\ x11.w.cnt <= 503 /\ x11.b.n <= 800000 /\ x14.length % 8 = 0 /\ List.length (nats x15) <= 90000 /\ ∀ (b : Nat), b ∈ Prod.snd (Prod.snd ((fun x => (x, Value.slice x12.s.A x12.s.n x12.s.cap, nats x15)) (WS.mk x16 (X61.rel (X61.mk x6 (Prod.fst (Prod.snd (x4, x.x.rel, x.x.vc, lensOf (canonL x.x.lens)))) x3 x5 (lensOf (canonL (Prod.snd (Prod.snd (Prod.snd (x4, x.x.rel, x.x.vc, lensOf (canonL x.x.lens))))))))) x2 x1 x.x.big x11.off x11.w x11.b))) -> b < 256) /\ (x2 = x2 /\ Ro) /\ (Rf (Value.slice x12.s.A x12.s.n x12.s.cap) /\ x15 = ints (nats x15)) /\ x16 = x16 /\ Rl x.x.rel /\ x2 = x2 /\ Rf (x11.off : Int) /\ (x1 = x1 /\ Ro) /\ Rf (x11.w.bits : Int) /\ Rf (x11.w.num : Int) /\ Rf x.x.big /\ (Rf 512 /\ Rf x11.w.arr) /\ Rf (x11.w.cnt : Int) /\ x1 = x1 /\ (Rf x11.b.x /\ Rf 0 /\ Rf x11.b.n /\ Rf x11.b.v) /\ Rz /\ Rf x11.b.last /\ (Rf x11.b.x /\ Rf x11.b.l) /\ ∀ x17 : YF, ((wsOK (x14 ++ bitsOf x.x.big (nats x15)) (WS.upd (WS.mk x16 x.x.rel x2 x1 x.x.big x11.off x11.w x11.b) x17.off x17.w x17.b) /\ x17.w.cnt = 0 /\ x17.w.num = 0 /\ x17.b.n <= x11.b.n + 512 + List.length (nats x15)) -> x16 = x16 /\ inI64 ((x11.i : Int) + (1 : Int)) /\ ∃ x18 : Y59, (ph59 ss x.x (ws59 x x1 x2) x18 /\ x.x.l.length - x18.i < x.x.l.length - x11.i) /\ (x11.i : Int) + (1 : Int) = (x18.i : Int) /\ Rf x.x.m /\ Rl x.x.rel /\ Rf x.pg /\ Rf x.x.big /\ Rf x.pc /\ (Rf x.x.vc /\ Rf (canonL x.x.lens)) /\ Rf x.pr /\ (Rf x.x.vr /\ Rf (rgL 0 x.x.extra)) /\ Rf x.pl /\ (Rf x.x.vl /\ Rf x.x.l) /\ Rf x.pn /\ Rz /\ Rf x.pb /\ Rn /\ Rf x.pk /\ Rf false /\ x1 = x1 /\ (x17.b.x = x18.b.x /\ Rf 0 /\ x17.b.n = x18.b.n /\ x17.b.v = x18.b.v) /\ Rz /\ x17.b.last = x18.b.last /\ x2 = x2 /\ (x17.off : Int) = (x18.off : Int) /\ (x1 = x1 /\ Ro) /\ (x17.w.bits : Int) = (x18.w.bits : Int) /\ (x17.w.num : Int) = (x18.w.num : Int) /\ Rf x.x.big /\ (Rf 512 /\ x17.w.arr = x18.w.arr) /\ (x17.w.cnt : Int) = (x18.w.cnt : Int) /\ x3 = x3 /\ (Rf x7.y /\ Rf (ints (encT (lensOf (canonL (lensOf (canonL x.x.lens)))) ((2 : Nat) ^ x7.k) (List.length (lensOf (canonL (lensOf (canonL x.x.lens)))))))) /\ (Rf (↑((2 : Nat) ^ x7.k - 1) : Int)) /\ (Rf (↑(List.length (lensOf (canonL (lensOf (canonL x.x.lens))))) : Int)) /\ x8 = x8 /\ (Rf x9.y /\ Rf (rgL 0 x.x.extra)) /\ (Rf 1024 /\ Rf (ints x9.lut)) /\ Rz /\ (x17.b.x = x18.b.x /\ x17.b.l = x18.b.l) /\ True))) (inI64 ((x11.i : Int) + (1 : Int)) /\ ∃ x14 : Y59, (ph59 ss x.x (ws59 x x1 x2) x14 /\ x.x.l.length - x14.i < x.x.l.length - x11.i) /\ (x11.i : Int) + (1 : Int) = (x14.i : Int) /\ Rf x.x.m /\ Rl x.x.rel /\ Rf x.pg /\ Rf x.x.big /\ Rf x.pc /\ (Rf x.x.vc /\ Rf (canonL x.x.lens)) /\ Rf x.pr /\ (Rf x.x.vr /\ Rf (rgL 0 x.x.extra)) /\ Rf x.pl /\ (Rf x.x.vl /\ Rf x.x.l) /\ Rf x.pn /\ Rz /\ Rf x.pb /\ Rn /\ Rf x.pk /\ Rf false /\ x1 = x1 /\ (x11.b.x = x14.b.x /\ Rf 0 /\ x11.b.n = x14.b.n /\ x11.b.v = x14.b.v) /\ Rz /\ x11.b.last = x14.b.last /\ x2 = x2 /\ (x11.off : Int) = (x14.off : Int) /\ (x1 = x1 /\ Ro) /\ (x11.w.bits : Int) = (x14.w.bits : Int) /\ (x11.w.num : Int) = (x14.w.num : Int) /\ Rf x.x.big /\ (Rf 512 /\ x11.w.arr = x14.w.arr) /\
 (x11.w.cnt : Int) = (x14.w.cnt : Int) /\ x3 = x3 /\ (Rf x7.y /\ Rf (ints (encT (lensOf (canonL (lensOf (canonL x.x.lens)))) ((2 : Nat) ^ x7.k) (List.length (lensOf (canonL (lensOf (canonL x.x.lens)))))))) /\ (Rf (↑((2 : Nat) ^ x7.k - 1) : Int)) /\ (Rf (↑(List.length (lensOf (canonL (lensOf (canonL x.x.lens))))) : Int)) /\ x8 = x8 /\ (Rf x9.y /\ Rf (rgL 0 x.x.extra)) /\ (Rf 1024 /\ Rf (ints x9.lut)) /\ Rz /\ (x11.b.x = x14.b.x /\ x11.b.l = x14.b.l) /\ True))))))) (x2 = x2 /\ inI64 ((8 : Int) * (x11.off : Int)) /\ x2 = x2 /\ inI64 ((8 : Int) * (x11.w.cnt : Int)) /\ inI64 ((8 : Int) * (x11.off : Int) + (8 : Int) * (x11.w.cnt : Int)) /\ x2 = x2 /\ inI64 (x11.w.num : Int) /\ inI64 ((8 : Int) * (x11.off : Int) + (8 : Int) * (x11.w.cnt : Int) + (x11.w.num : Int)) /\ Rf x.pn /\ ∃ x12 : List Nat, ∀ x13 : Fz, (wsOK x12 (WS.mk x13 x.x.rel x2 x1 x.x.big x11.off x11.w x11.b) /\ x11.w.num <= 57 /\ 0 < (2 : Nat) ^ padN x12.length) /\ (x2 = x2 /\ Ro) /\ (0 : Int) = (↑(0 : Nat) : Int) /\ x13 = x13 /\ Rl x.x.rel /\ x2 = x2 /\ Rf (x11.off : Int) /\ (x1 = x1 /\ Ro) /\ Rf (x11.w.bits : Int) /\ Rf (x11.w.num : Int) /\ Rf x.x.big /\ (Rf 512 /\ Rf x11.w.arr) /\ Rf (x11.w.cnt : Int) /\ x1 = x1 /\ (Rf x11.b.x /\ Rf 0 /\ Rf x11.b.n /\ Rf x11.b.v) /\ Rz /\ Rf x11.b.last /\ (Rf x11.b.x /\ Rf x11.b.l) /\ ∀ x14 : WV, ((wrt x12 (nb 0 (padN x12.length)) (WS.mk x13 x.x.rel x2 x1 x.x.big x11.off x11.w x11.b) x14 /\ x14.cnt = x11.w.cnt) -> x13 = x13 /\ ∃ x15 : List Nat, ∀ x16 : Fz, (wsOK x15 (WS.mk x16 x.x.rel x2 x1 x.x.big x11.off x14 x11.b) /\ x14.cnt <= 503 /\ x11.b.n <= 900000) /\ (x2 = x2 /\ Ro) /\ x16 = x16 /\ Rl x.x.rel /\ x2 = x2 /\ Rf (x11.off : Int) /\ (x1 = x1 /\ Ro) /\ Rf (x14.bits : Int) /\ Rf (x14.num : Int) /\ Rf x.x.big /\ (Rf 512 /\ Rf x14.arr) /\ Rf (x14.cnt : Int) /\ x1 = x1 /\ (Rf x11.b.x /\ Rf 0 /\ Rf x11.b.n /\ Rf x11.b.v) /\ Rz /\ Rf x11.b.last /\ (Rf x11.b.x /\ Rf x11.b.l) /\ ∀ x17 : YF, ((wsOK x15 (WS.upd (WS.mk x16 x.x.rel x2 x1 x.x.big x11.off x14 x11.b) x17.off x17.w x17.b) /\ x17.w.cnt = 0 /\ x17.w.num <= 7 /\ x17.b.n <= x11.b.n + 512) -> x16 = x16 /\ ∀ x18 : Nat, x1 = x1 /\ x1 = x1 /\ Rf x17.b.x /\ ((0 : Nat) <= x17.b.n /\ x17.b.n <= x17.b.l.length /\ (0 : Int) <= (0 : Int) /\ (0 : Int) <= (↑(x17.b.n - 0) : Int) /\ 0 + (x17.b.n - 0) <= x17.b.l.length) /\ ∀ x19 : Value, (Rf (Value.slice (some (Addr.mk x18 0 none)) 0 0) /\ Rf 0) /\ (Rf x17.b.x /\ 0 <= 0 + (x17.b.n - 0) /\ 0 + (x17.b.n - 0) <= x17.b.l.length) /\ room ((0 : Nat) + List.length (List.drop 0 (List.take ((0 : Nat) + (x17.b.n - 0)) x17.b.l))) 1 /\ ∀ x20 : Value, Rf x.pb /\ Rf x.pk /\ ∃ x21 : YW, psW ss x.x x21 /\ Rf x.x.m /\ relLe x21.rel (relAdd x.x.rel 5 x17.b.x x17.b.l) /\ Rf x.pg /\ Rf x.x.big /\ Rf x.pc /\ (Rf x.x.vc /\ Rf (canonL x.x.lens)) /\ Rf x.pr /\ (Rf x.x.vr /\ Rf (rgL 0 x.x.extra)) /\ Rf x.pl /\ (Rf x.x.vl /\ Rf x.x.l) /\ Rf x.pn /\ (8 : Int) * (x11.off : Int) + (8 : Int) * (x11.w.cnt : Int) + (x11.w.num : Int) = (x21.B.length : Int) /\ Rf x.pb /\ (x20 = x21.y /\ 0 + List.length (List.drop 0 (List.take ((0 : Nat) + (x17.b.n - 0)) x17.b.l)) = List.length (outW x.x.big x21.B)) /\
 Rf x.pk /\ Rf true /\ (x20 = x21.y /\ [] ++ List.drop 0 (List.take ((0 : Nat) + (x17.b.n - 0)) x17.b.l) = ints (outW x.x.big x21.B)) /\ True))))))))) (∀ x4 : Nat, (Rf x.pr /\ Br (decide ((↑(List.length (rgL 0 x.x.extra)) : Int) > (0 : Int))) (Rf x.pr /\ ∀ x5 : Fz, List.length (extraOf (rgL 0 x.x.extra)) <= 30 /\ (Rf x.x.vr /\ rgL 0 x.x.extra = rgL 0 (extraOf (rgL 0 x.x.extra))) /\ x5 = x5 /\ Rl x.x.rel /\ ∀ x6 : Value, (True -> x5 = x5 /\ ∀ x7 : Fz, (exOK (extraOf (rgL 0 (extraOf (rgL 0 x.x.extra)))) /\ 0 < List.length (extraOf (rgL 0 (extraOf (rgL 0 x.x.extra))))) /\ (x4 = x4 /\ Ro) /\ (x6 = x6 /\ rgL 0 (extraOf (rgL 0 x.x.extra)) = rgL 0 (extraOf (rgL 0 (extraOf (rgL 0 x.x.extra))))) /\ x7 = x7 /\ Rl x.x.rel /\ x4 = x4 /\ Rn /\ (Rf 1024 /\ List.replicate 1024 (0 : Int) = zeros) /\ Rz /\ ∀ x8 : List Nat, ((lutOK (extraOf (rgL 0 (extraOf (rgL 0 x.x.extra)))) x8) -> x7 = x7 /\ ∃ x9 : GV, lutOK x.x.extra x9.lut /\ Rf x.x.m /\ Rl x.x.rel /\ Rf x.pg /\ Rf x.x.big /\ Rf x.pc /\ (Rf x.x.vc /\ Rf (canonL x.x.lens)) /\ Rf x.pr /\ (Rf x.x.vr /\ Rf (rgL 0 x.x.extra)) /\ Rf x.pl /\ (Rf x.x.vl /\ Rf x.x.l) /\ Rf x.pn /\ Rz /\ Rf x.pb /\ Rn /\ Rf x.pk /\ Rf false /\ x1 = x1 /\ Rn /\ Rz /\ Rz /\ x2 = x2 /\ Rz /\ (x1 = x1 /\ Ro) /\ Rz /\ Rz /\ Rf x.x.big /\ (Rf 512 /\ Rf (List.replicate 512 (0 : Int))) /\ Rz /\ x3 = x3 /\ Rn /\ Rz /\ Rz /\ x4 = x4 /\ (x6 = x9.y /\ rgL 0 (extraOf (rgL 0 (extraOf (rgL 0 x.x.extra)))) = rgL 0 x.x.extra) /\ (Rf 1024 /\ ints x8 = ints x9.lut) /\ Rz /\ True))) (∃ x5 : GV, lutOK x.x.extra x5.lut /\ Rf x.x.m /\ Rl x.x.rel /\ Rf x.pg /\ Rf x.x.big /\ Rf x.pc /\ (Rf x.x.vc /\ Rf (canonL x.x.lens)) /\ Rf x.pr /\ (Rf x.x.vr /\ Rf (rgL 0 x.x.extra)) /\ Rf x.pl /\ (Rf x.x.vl /\ Rf x.x.l) /\ Rf x.pn /\ Rz /\ Rf x.pb /\ Rn /\ Rf x.pk /\ Rf false /\ x1 = x1 /\ Rn /\ Rz /\ Rz /\ x2 = x2 /\ Rz /\ (x1 = x1 /\ Ro) /\ Rz /\ Rz /\ Rf x.x.big /\ (Rf 512 /\ Rf (List.replicate 512 (0 : Int))) /\ Rz /\ x3 = x3 /\ Rn /\ Rz /\ Rz /\ x4 = x4 /\ (Rn /\ Value.slice none 0 0 = x5.y /\ rgL 0 x.x.extra = []) /\ (Rf 1024 /\ List.replicate 1024 (0 : Int) = ints x5.lut) /\ Rz /\ True)) /\ (∀ x5 : GV, ((lutOK x.x.extra x5.lut) -> Rf x.pl /\ ∃ x6 : Unit, False /\ False /- "match: a slot of which nothing is known" -/)))
noncomputable def law_c59 (G : Gl) (ss : List (List Nat)) (x : X59) : VCT := fnx (CC G) (IN G b59 NA) (a59 ss x) Tryz.f59 ((c59 ss).args x) ((c59 ss).H x) (outK true 9 ((c59 ss).ret x)) ((c59 ss).pan x)
theorem eq_c59 (G : Gl) (ss : List (List Nat)) (x : X59) : cond_c59 G ss x = (law_c59 G ss x).den := by kernel_rfl
theorem nb_nil (n : Nat) : nb 0 n = List.replicate n 0 := by
 refine (nb_ext (List.length_replicate) fun k hk => ?_).symm
 rw [List.getElem?_replicate, if_pos hk]
 unfold bt; simp
theorem out_mk {B : List Nat} {x : WS} (hB : ∀ b ∈ B, b < 2) (h : wsOK (B ++ nb 0 (padN B.length)) x) (h0 : x.w.cnt = 0) (h7 : x.w.num <= 7) : x.b.l.take x.b.n = ints (outW x.big B) /\ x.b.n = (B.length + 7) / 8 := by
 have hl := ws_len h
 obtain ⟨bs, b1, b2, b3⟩ := h.rep
 rw [List.length_append, nb_len] at hl
 have hp : (B.length + padN B.length) % 8 = 0 /\ padN B.length < 8 := by unfold padN; omega
 have hn : x.w.num = 0 := by omega
 rw [h0, List.take_zero, List.append_nil] at b2
 rw [hn, nb_zero, List.append_nil] at b3
 have e8 : 8 * ((B.length + 7) / 8) - B.length = padN B.length := by unfold padN; omega
 have hpk := packL_bits (big := x.big) (m := (B.length + 7) / 8) hB (by omega)
 rw [e8, <- nb_nil, b3] at hpk
 have := bits_inj x.big (packL_lt _ _ _) b1 hpk
 refine ⟨?_, by omega⟩
 rw [b2, <- this]; rfl
theorem evOK_any {lens : List Nat} {e e' : EV} (h : evOK lens e) (hk : e'.k = e.k) : evOK lens e' := ⟨by rw [hk]; exact h.le, by rw [hk]; exact h.k⟩
theorem ph59_next {ss : List (List Nat)} {x : XW} {ws : WS} {y : Y59} (h : ph59 ss x ws y) (hx : x25OK ss x) {p : Pt} (hp : x.l[y.i]? = some p) :
   ∃ s C, isRo x.rel 5 p.s.val (ints s) /\ s.length = p.s.n /\ (∀ b ∈ s, b < 256) /\ putM x.lens x.extra x.big y.B.length p s = some C /\
     (C.length <= 320 -> ∀ (off : Nat) (w : WV) (b : BV), wsOK (y.B ++ C) (ws.upd off w b) -> w.tot <= y.w.tot + 47 -> w.num <= 56 -> b.n <= y.b.n + 600 -> ph59 ss x ws ⟨y.i + 1, off, w, b, y.B ++ C⟩) := by
 have hi : y.i < x.l.length := (List.getElem?_eq_some_iff.1 hp).1
 have hsl := hx.ok.ss.len
 have hs : ss[y.i]? = some ss[y.i] := List.getElem?_eq_getElem (by omega)
 obtain ⟨h1, h2, h3⟩ := hx.ok.ss.ro _ _ _ hp hs
 have hz : (x.l.zip ss)[y.i]? = some (p, ss[y.i]) := List.getElem?_zip_eq_some.2 ⟨hp, hs⟩
 have ht : (x.l.zip ss).take (y.i + 1) = (x.l.zip ss).take y.i ++ [(p, ss[y.i])] := take_succ hz
 cases hC : putM x.lens x.extra x.big y.B.length p ss[y.i] with
 | none =>
   refine absurd ?_ hx.run
   unfold XW.run
   refine wrM_none (y.i + 1) ?_
   rw [ht, wrM_snoc, h.run, Option.bind_some, hC]; rfl
 | some C =>
   refine ⟨ss[y.i], C, h1, h2, h3, hC, fun hl off w b hw ht' hn hb => ⟨hi, ?_, ?_, ?_, hw, ?_, hn, ?_⟩⟩
   . dsimp only
     rw [ht, wrM_snoc, h.run, Option.bind_some, hC]; rfl
   . have := h.len
     dsimp only
     rw [List.length_append]; omega
   . intro b hb
     rcases List.mem_append.1 hb with hb | hb
     . exact h.bit b hb
     . exact putM_lt hC b hb
   . have := h.tot
     dsimp only; omega
   . have := h.bn
     dsimp only; omega
theorem ok_c59 (G : Gl) (ss : List (List Nat)) (x : X59) (h : x25OK ss x.x) : cond_c59 G ss x := by
 unfold cond_c59
 have e9 : ∀ l : List Nat, nats (ints l) = l := nats_ints
 have hx := h.ok
 have hg := hx.good
 have h2 := hg.two
 have h60 := hg.sixty
 have hex : exOK x.x.extra := ⟨hx.el, hx.en⟩
 have hlt := hx.light.1
 simp only [e9, lensOf_canon, extraOf_rgL, log_mask, br_d, br_i, rel_self, true_and, and_true, inRange, inI64, Int.toNat_natCast, canonL_len, rgL_len]
 refine fun ob wb eb => ⟨fun _ m4 => ⟨h60, fun cv _ m6 => ⟨hg, fun ev he rb => ⟨⟨fun h0 m9 => ⟨hx.el, fun rv _ m11 => ⟨⟨hex, by omega⟩, rfl, fun lut hlut => ⟨⟨rv, lut⟩, hlut, rfl, rfl⟩⟩⟩, fun h0 => ?_⟩, fun g hlut => ?_⟩⟩⟩, fun h0 => absurd h0 (by omega)⟩
 . have he0 : x.x.extra = [] := List.eq_nil_of_length_eq_zero (by omega)
   refine ⟨⟨.slice none 0 0, List.replicate 1024 0⟩, ⟨by simp, fun j i _ hr => ?_⟩, ⟨rfl, by rw [he0]; rfl⟩, by simp [ints]⟩
   have := (rgM_some hr).1
   rw [he0] at this
   exact absurd this (by simp)
 . refine ⟨⟨0, 0, ⟨0, 0, List.replicate 512 0, 0⟩, ⟨.slice none 0 0, [], 0, .slice none 0 0, 0⟩, []⟩, ?_, rfl, ⟨rfl, rfl, rfl⟩, rfl, rfl, rfl, rfl, rfl, rfl, ⟨rfl, rfl⟩, fun y hy => ⟨fun hlt' => ?_, fun hge => ?_⟩⟩
   . refine ⟨Nat.zero_le _, rfl, Nat.zero_le _, fun b hb => by simp at hb, ⟨List.length_replicate, Nat.zero_le _, Nat.zero_le _, Nat.lt_of_lt_of_le Nat.zero_lt_one (Nat.le_refl _), ⟨Nat.le_refl _, rfl, Nat.zero_le _⟩, rfl, [], fun b hb => by simp at hb, rfl, rfl⟩, Nat.zero_le _, Nat.zero_le _, Nat.zero_le _⟩
   . have hi := hy.i
     have hlen := hy.len
     have hw := hy.ws
     have ht := hy.tot
     have hn := hy.num
     have hbn := hy.bn
     refine ⟨by omega, by omega, fun p hp b2 => ?_⟩
     have hpm := List.mem_of_getElem? hp
     obtain ⟨k1, k2, k3, k4, k5⟩ := hx.light.2 p hpm
     obtain ⟨v1, v2⟩ := hx.v p hpm
     have n1 := hx.n p hpm
     obtain ⟨s, C, s1, s2, s3, hC, hgo⟩ := ph59_next hy h hp
     have ev1 : p.v = ((p.v.toNat : Nat) : Int) := by omega
     have en1 : p.n = ((p.n.toNat : Nat) : Int) := by omega
     have hcnt : y.w.tot = 8 * y.w.cnt + y.w.num := rfl
     have fin : ∀ {w : WV} {B' : List Nat}, ph59 ss x.x (ws59 x ob wb) ⟨y.i + 1, y.off, w, y.b, B'⟩ -> (-9223372036854775808 <= (y.i : Int) + 1 /\ (y.i : Int) + 1 < 9223372036854775808) /\ ∃ z : Y59, (ph59 ss x.x (ws59 x ob wb) z /\ x.x.l.length - z.i < x.x.l.length - y.i) /\ (y.i : Int) + 1 = (z.i : Int) /\ (y.b.x = z.b.x /\ y.b.n = z.b.n /\ y.b.v = z.b.v) /\ y.b.last = z.b.last /\ (y.off : Int) = (z.off : Int) /\ (w.bits : Int) = (z.w.bits : Int) /\ (w.num : Int) = (z.w.num : Int) /\ w.arr = z.w.arr /\ (w.cnt : Int) = (z.w.cnt : Int) /\ y.b.x = z.b.x /\ y.b.l = z.b.l := fun {w B'} hph =>
       ⟨by omega, ⟨y.i + 1, y.off, w, y.b, B'⟩, ⟨hph, by dsimp only; omega⟩, by dsimp only; omega, ⟨rfl, rfl, rfl⟩, rfl, rfl, rfl, rfl, rfl, rfl, rfl, rfl⟩
     unfold putM at hC
     refine ⟨fun e0 => ?_, fun e0 => ⟨fun e1 => ?_, fun e1 => ⟨fun e2 => ?_, fun e2 => ⟨fun e3 => ?_, fun e3 => ⟨fun e4 => ?_, fun e4 => ?_⟩⟩⟩⟩⟩
     . rw [if_pos e0] at hC
       split at hC
       . rename_i hv
         cases hC
         have h32 : p.n.toNat <= 32 := by have := k3 e0; omega
         refine ⟨y.B, fun m => ⟨⟨ws_any hw m _, by show y.w.tot <= 4024; omega, hv, by omega⟩, ev1, en1, fun w hw' => fin (hgo (by rw [nb_len]; omega) y.off w y.b (ws_any hw'.1.ok _ _) ?_ (by omega) (by omega))⟩⟩
         have e : w.tot = y.w.tot + (nb p.v.toNat p.n.toNat).length := hw'.1.tot
         rw [nb_len] at e
         omega
       . cases hC
     . rw [if_neg e0, if_pos e1] at hC
       split at hC
       . rename_i hv
         cases hC
         have hcl : (codeB x.x.lens p.v.toNat).length = x.x.lens.getD p.v.toNat 0 := nb_len _ _
         obtain ⟨-, c2⟩ := codeV_lt hg hv
         refine ⟨(y.B, x.x.lens), fun m => ⟨⟨ws_any hw m _, by show y.w.tot <= 4024; omega, hg, evOK_any he rfl, hv⟩, ev1, rfl, rfl, fun w hw' => ?_⟩⟩
         have hph := (hgo (by omega) y.off w y.b (ws_any hw'.1.ok _ _) ?_ (by omega) (by omega))
         . exact ⟨by omega, ⟨y.i + 1, y.off, w, y.b, _⟩, ⟨hph, by dsimp only; omega⟩, by dsimp only; omega, ⟨rfl, rfl, rfl⟩, rfl, rfl, rfl, rfl, rfl, rfl, rfl, rfl, rfl, rfl⟩
         have e : w.tot = y.w.tot + (codeB x.x.lens p.v.toNat).length := hw'.1.tot
         omega
       . cases hC
     . rw [if_neg e0, if_neg e1, if_pos e2] at hC
       split at hC
       . cases hC
       . rename_i i hr
         split at hC
         . rename_i hv
           cases hC
           have hcl : (codeB x.x.lens i ++ nb (p.v.toNat - sum2 (x.x.extra.take i)) (x.x.extra.getD i 0)).length = x.x.lens.getD i 0 + x.x.extra.getD i 0 := by rw [List.length_append, codeB, nb_len, nb_len]
           obtain ⟨-, c2⟩ := codeV_lt hg hv
           have c3 := exGet hex i
           refine ⟨(y.B, x.x.lens, x.x.extra), fun m => ⟨⟨⟨ws_any hw m _, by show y.w.tot <= 4000; omega, hg, evOK_any he rfl⟩, hex, hlut, i, hr, hv⟩, ev1, rfl, rfl, rfl, fun w hw' => ?_⟩⟩
           obtain ⟨w1, w2, w3⟩ := hw'
           obtain rfl : i = w.2 := Option.some.inj (hr.symm.trans w1)
           have hph := (hgo (by omega) y.off w.1 y.b (ws_any w2.ok _ _) ?_ (by omega) (by omega))
           . exact ⟨by omega, ⟨y.i + 1, y.off, w.1, y.b, _⟩, ⟨hph, by dsimp only; omega⟩, by dsimp only; omega, ⟨rfl, rfl, rfl⟩, rfl, rfl, rfl, rfl, rfl, rfl, rfl, rfl, rfl, rfl, rfl⟩
           have e : w.1.tot = y.w.tot + (codeB x.x.lens w.2 ++ nb (p.v.toNat - sum2 (x.x.extra.take w.2)) (x.x.extra.getD w.2 0)).length := w2.tot
           omega
         . cases hC
     . rw [if_neg e0, if_neg e1, if_neg e2, if_pos e3] at hC
       split at hC
       . rename_i hv
         cases hC
         have hp8 := padN_lt y.B.length
         have hl := ws_len hw
         have hl : y.B.length = 8 * (y.b.n + y.w.cnt) + y.w.num := hl
         have hpn : (y.w.num + padN y.B.length) % 8 = 0 := by unfold padN; omega
         refine ⟨y.B, fun m => ⟨⟨ws_any hw m _, by show y.w.num <= 57; omega, hv⟩, ev1, fun w hw' => ?_⟩⟩
         have e : w.tot = y.w.tot + (nb p.v.toNat (padN y.B.length)).length := hw'.1.tot
         rw [nb_len] at e
         have ec : w.cnt = y.w.cnt := hw'.2
         have ew : w.tot = 8 * w.cnt + w.num := rfl
         exact fin (hgo (by rw [nb_len]; omega) y.off w y.b (ws_any hw'.1.ok _ _) (by omega) (by omega) (by omega))
       . cases hC
     . rw [if_neg e0, if_neg e1, if_neg e2, if_neg e3, if_pos e4] at hC
       split at hC
       . rename_i hv
         cases hC
         refine ⟨y.B, ints s, s1, fun _ m => ?_⟩
         have e10 : nats (ints s) = s := nats_ints s
         rw [e10]
         refine ⟨⟨ws_any hw m _, by omega, by omega, hv, by omega, s3⟩, rfl, fun z hz => ?_⟩
         obtain ⟨z1, z2, z3, z4⟩ := hz
         have z5 : z.w.tot = 8 * z.w.cnt + z.w.num := rfl
         have hph := hgo (by rw [bitsOf_len]; omega) z.off z.w z.b (ws_any z1 _ _) (by omega) (by omega) (by omega)
         exact ⟨by omega, ⟨y.i + 1, z.off, z.w, z.b, _⟩, ⟨hph, by dsimp only; omega⟩, by dsimp only; omega, ⟨rfl, rfl, rfl⟩, rfl, rfl, rfl, rfl, rfl, rfl, rfl, rfl⟩
       . cases hC
     . omega
   . have hi := hy.i
     have hlen := hy.len
     have hw := hy.ws
     have ht := hy.tot
     have hn := hy.num
     have hbn := hy.bn
     have hrun := hy.run
     have hil : y.i = x.x.l.length := by omega
     rw [hil, List.take_of_length_le (by rw [List.length_zip]; omega)] at hrun
     have hcnt : y.w.tot = 8 * y.w.cnt + y.w.num := rfl
     have hoff : y.off = y.b.n := hw.off
     have hl : y.B.length = 8 * (y.b.n + y.w.cnt) + y.w.num := ws_len hw
     refine ⟨by omega, by omega, by omega, by omega, by omega, y.B, fun m => ⟨⟨ws_any hw m _, by omega, Nat.pow_pos (by decide)⟩, rfl, fun w hw' => ?_⟩⟩
     have ec : w.cnt = y.w.cnt := hw'.2
     refine ⟨y.B ++ nb 0 (padN y.B.length), fun m' => ⟨⟨ws_any hw'.1.ok m' _, by omega, by omega⟩, fun z hz b => ?_⟩⟩
     obtain ⟨z1, z2, z3, z4⟩ := hz
     obtain ⟨o1, o2⟩ := out_mk hy.bit z1 z2 z3
     have o1 : z.b.l.take z.b.n = ints (outW x.x.big y.B) := o1
     have o2 : z.b.n = (y.B.length + 7) / 8 := o2
     have zb : z.b.n <= z.b.l.length := z1.bv.n
     have ol : (outW x.x.big y.B).length = (y.B.length + 7) / 8 := packL_len _ _ _
     simp only [Nat.zero_add, Nat.sub_zero, List.drop_zero, o1, ints_len, ol, List.nil_append]
     refine ⟨by omega, fun v => ⟨by omega, by unfold room; omega, fun v' => ⟨⟨relAdd x.x.rel 5 z.b.x z.b.l, v', y.B⟩, ⟨relLe.add _ _ _ _, hrun, by dsimp only; omega, hy.bit⟩, relLe.refl _, by dsimp only; omega, ⟨rfl, ol.symm⟩, rfl, rfl⟩⟩⟩
theorem b59_ok (G : Gl) : ∀ f pt, b59 f = some pt -> SpecOK (CC G) f pt := by
 intro f pt h
 unfold b59 at h
 split at h
 . cases h; exact loc_ok (s61 G) _
 . cases h; exact loc_ok (s62 G) _
 . cases h; exact loc_ok (s63 G) _
 . cases h; exact loc_ok (s64 G) _
 . cases h; exact exPT_ok [] fun B => loc_ok (s65 G B) _
 . cases h; exact exPT_ok ([], []) fun z => loc_ok (s66 G z.1 z.2) _
 . cases h; exact exPT_ok ([], [], []) fun z => loc_ok (s67 G z.1 z.2.1 z.2.2) _
 . cases h; exact exPT_ok [] fun B => loc_ok (s68 G B) _
 . cases h; exact exPT_ok [] fun B => loc_ok (s69 G B) _
 . cases h; exact exPT_ok [] fun B => loc_ok (s71 G B) _
 . cases h
theorem s59 (G : Gl) (ss : List (List Nat)) : SpecOK (CC G) 59 (c59 ss).pt := spec G (b59_ok G) (fn := Tryz.f59) rfl NA (c59 ss) (fun x => a59 ss x) fun x h => Met.of (eq_c59 G ss x) (ok_c59 G ss x h)
end Pc
/-
 The program's WriteAll does what its contract says.
-/
set_option linter.unusedVariables false
set_option maxRecDepth 100000
open Go Go.Vg Go.Proofs
namespace Pc
def cond_c25 (G : Gl) (ss : List (List Nat)) (x : XW) : Prop :=
 ∀ x1 x2 : Nat, ∀ x3 x4 : Nat, ∀ x5 x6 : Nat, ∀ x7 x8 : Nat, ∀ x9 : Fz, x25OK ss (XW.mk x9 x.rel x.vl x.l x.vc (lensOf (canonL x.lens)) x.vr (extraOf (rgL 0 x.extra)) x.big) /\ (x4 = x4 /\ Ro) /\ (x2 = x2 /\ Ro) /\ (x3 = x3 /\ Ro) /\ (x1 = x1 /\ Ro) /\ (x6 = x6 /\ Ro) /\ (x5 = x5 /\ Ro) /\ (x7 = x7 /\ Ro) /\ x9 = x9 /\ Rl x.rel /\ x4 = x4 /\ Rf x.big /\ x2 = x2 /\ (Rf x.vc /\ canonL x.lens = canonL (lensOf (canonL x.lens))) /\ x3 = x3 /\ (Rf x.vr /\ rgL 0 x.extra = rgL 0 (extraOf (rgL 0 x.extra))) /\ x1 = x1 /\ (Rf x.vl /\ x.l = x.l) /\ x6 = x6 /\ Rz /\ x5 = x5 /\ Rn /\ x7 = x7 /\ Rf false /\ ∀ x10 : YW, ((psW ss (XW.mk x9 x.rel x.vl x.l x.vc (lensOf (canonL x.lens)) x.vr (extraOf (rgL 0 x.extra)) x.big) x10) -> x9 = x9 /\ x8 = x8 /\ x8 = x8 /\ x8 = x8 /\ x7 = x7 /\ x5 = x5 /\ x6 = x6 /\ x5 = x5 /\ x6 = x6 /\ Rf (SV.toV (T := TT) (SV.v (Value.int IntKind.i64 (x10.B.length : Int)))) /\ x6 = x6 /\ x7 = x7 /\ x5 = x5 /\ x6 = x6 /\ x7 = x7 /\ (Rf x10.y /\ List.length (outW x.big x10.B) = List.length (ints (outW x.big x10.B))) /\ ∃ x11 : YW, psW ss x x11 /\ (x10.y = x11.y /\ ints (outW x.big x10.B) = ints (outW x.big x11.B)) /\ (x10.B.length : Int) = (x11.B.length : Int) /\ Rf true /\ x.m = x.m /\ relLe x11.rel x10.rel /\ True)
noncomputable def law_c25 (G : Gl) (ss : List (List Nat)) (x : XW) : VCT := fnx (CC G) (IN G (b25 ss) NA) noAnn Tryz.f25 ((c25 ss).args x) ((c25 ss).H x) (outK true 2 ((c25 ss).ret x)) ((c25 ss).pan x)
theorem eq_c25 (G : Gl) (ss : List (List Nat)) (x : XW) : cond_c25 G ss x = (law_c25 G ss x).den := by kernel_rfl
theorem ok_c25 (G : Gl) (ss : List (List Nat)) (x : XW) (h : x25OK ss x) : cond_c25 G ss x := by
 unfold cond_c25
 simp only [lensOf_canon, extraOf_rgL, rel_self, true_and, and_true, ints_len]
 exact fun _ _ _ _ _ _ _ _ m => ⟨⟨⟨h.ok.good, h.ok.el, h.ok.en, h.ok.light, h.ok.v, h.ok.n, h.ok.ss⟩, h.run⟩, fun y hy => ⟨y, ⟨hy.rel, hy.run, hy.len, hy.bit⟩, ⟨rfl, rfl⟩, rfl, relLe.refl _⟩⟩
theorem b25_ok (G : Gl) (ss : List (List Nat)) : ∀ f pt, b25 ss f = some pt -> SpecOK (CC G) f pt := by
 intro f pt h
 unfold b25 at h
 split at h
 . cases h; exact loc_ok (s59 G ss) _
 . cases h
theorem s25 (G : Gl) (ss : List (List Nat)) : SpecOK (CC G) 25 (c25 ss).pt := spec G (b25_ok G ss) (fn := Tryz.f25) rfl NA (c25 ss) (fun _ => noAnn) fun x h => Met.of (eq_c25 G ss x) (ok_c25 G ss x h)
end Pc
/-
 Contracts of NewReader and ReadAll.
-/
set_option linter.unusedVariables false
set_option maxRecDepth 100000
open Go Go.Vg Go.Proofs
namespace Pc
def c52 : Ctr TT where
 X := Fz × Rel TT × Value × List Nat
 find a H := match a, H with
   | [.ro 5 v l], [.F m, .R rel] => some (m, rel, v, nats l)
   | _, _ => none
 phi x := True
 args x := [.ro 5 x.2.2.1 (ints x.2.2.2)]
 H x := fr2 x.1 x.2.1
 outs := [{ Y := fun _ => Nat, psi := fun x y => True, res := fun x y => .p 2 y (.lit 0), H := fun x y => [.F x.1, .R x.2.1, .B y 198 (segS x.2.2.1 x.2.2.2 0 (-1))] }]
structure c21OK (x : XR) : Prop where
 ok : xrOK x
 run : ¬ bad20 x
def c21 : Ctr TT where
 X := XR
 find a H := match a, H with
   | [.ro 36 vl l, .ro 90 vc k, .ro 97 vr r, .ro 5 vs bs, .v (.bool big)], [.F m, .R rel] => some ⟨m, rel, vl, l, vc, lensOf k, vr, extraOf r, vs, nats bs, big⟩
   | _, _ => none
 phi := c21OK
 args x := [.ro 36 x.vl x.l, .ro 90 x.vc (canonL x.lens), .ro 97 x.vr (rgL 0 x.extra), .ro 5 x.vs (ints x.bs), bv x.big]
 H x := fr2 x.m x.rel
 outs := [{
   Y := fun _ => Y20
   psi := fun x y => ps20 x y
   res := fun x y => .t [.ro 36 y.gv y.gl, .v (.int .i64 (wrong y.st y.gl.length)), iv .i64 (8 * x.bs.length - y.left)]
   H := fun x y => fr2 x.m y.rel }]
noncomputable def b21 (G : Gl) : Nat -> Option (PT TT)
 | 52 => some (giv [true] (loc [some 5] c52.pt))
 | 53 => some (exPT fun lens => loc [none, some 36, some 90, some 97, none] (c53 G lens).pt)
 | _ => none
end Pc
/-
 The contract of prefixAwake, and of FnRead.
-/
set_option linter.unusedVariables false
set_option maxRecDepth 100000
open Go Go.Vg Go.Proofs
namespace Pc
noncomputable def CK (G : Gl) : Ctx TT := { CC G with conc := true }
theorem spec_KC {G : Gl} {f : Nat} {pt : PT TT} (hs : SpecOK (CK G) f pt) : SpecOK (CC G) f pt := ⟨hs.enters, fun args H K Kp w hp hI => by
 have := hs.calls args H K Kp w hp ⟨⟨hI.1.ents, hI.1.apart, hI.1.lt, hI.1.glob⟩, hI.2⟩
 refine this.mono ?_
 rintro e w' (⟨r, H', he, hk, hH', hr, hst⟩ | ⟨r, H', he, hk, hH', hr, hst⟩)
 . exact .inl ⟨r, H', he, hk, ⟨hH'.ents, hH'.apart, hH'.lt, hH'.glob⟩, hr, hst⟩
 . exact .inr ⟨r, H', he, hk, ⟨hH'.ents, hH'.apart, hH'.lt, hH'.glob⟩, hr, hst⟩⟩
noncomputable def INK (G : Gl) : Nat -> Option (PT TT) := inl (CK G) no (bodyW NA) 12
theorem specK (G : Gl) {f : Nat} {fn : Func} (hf : fnOf f = some fn) (c : Ctr TT)
   (h : ∀ x, c.phi x -> Met (fnx (CK G) (INK G) noAnn fn (c.args x) (c.H x) (outK true (c.H x).length (c.ret x)) (c.pan x))) : SpecOK (CC G) f c.pt := by
 obtain ⟨h1, h2, h3, h4⟩ := fnOf_ok G f fn hf
 refine spec_KC ?_
 have hz : ZOK (CK G) := zok G
 have hm : (CK G).P.follows .mixedOrders = true := mixed G
 exact ctr_okX hz (inl_ok hz hm (fun f pt h => by cases h) (bodyW_ok G NA) 12) hm h1 h2 h3 h4 true c (fun _ => noAnn) h
def c19 : Ctr TT where
 X := Fz × Rel TT
 find a H := match a, H with
   | [], [.F m, .R rel] => some (m, rel)
   | _, _ => none
 phi x := True
 args x := []
 H x := fr2 x.1 x.2
 outs := [{ Y := fun _ => Unit, psi := fun x y => True, res := fun x y => bv true, H := fun x y => fr2 x.1 x.2 }]
noncomputable def invUpto (gl : List Pt) : Inv TT where
 X := Nat
 phi := fun i => i <= gl.length
 fr := fun i => [(20, iv .i64 i)]
 H := fun i => []
 mu := fun i => gl.length - i
structure X3 where
 m : Fz
 rel : Rel TT
 vl : Value
 l : List Pt
 v1 : Value
 ls : List Nat
 v2 : Value
 es : List Nat
 vb : Value
 bs : List Nat
 big : Bool
structure c3OK (x : X3) : Prop where
 ls : ∀ n ∈ x.ls, n < 256
 es : ∀ n ∈ x.es, n < 256
 bs : ∀ n ∈ x.bs, n < 256
 n : ∀ p ∈ x.l, 0 <= p.n
def c3 : Ctr TT where
 X := X3
 find a H := match a, H with
   | [.ro 36 vl l, .ro 5 v1 ls, .ro 5 v2 es, .ro 5 vb bs, .v (.bool big)], [.F m, .R rel] => some ⟨m, rel, vl, l, v1, nats ls, v2, nats es, vb, nats bs, big⟩
   | _, _ => none
 phi x := c3OK x
 args x := [.ro 36 x.vl x.l, .ro 5 x.v1 (ints x.ls), .ro 5 x.v2 (ints x.es), .ro 5 x.vb (ints x.bs), bv x.big]
 H x := fr2 x.m x.rel
 outs := [{ Y := fun _ => Rel TT, psi := fun x y => True, res := fun x y => bv true, H := fun x y => fr2 x.m y }]
noncomputable def a3 : Ann TT := fun r S => match r, S.get 17 with
 | 13, some (.ro 36 _ gl) => some (invUpto gl)
 | _, _ => none
noncomputable def b30 : Nat -> Option (PT TT)
 | 16 => some (loc [some 36] c16.pt)
 | 17 => some (loc [some 5, some 5] c17.pt)
 | 18 => some (loc [some 36] c18.pt)
 | 19 => some (loc [] c19.pt)
 | 20 => some (loc [some 36, some 90, some 97, some 5, none] c20.pt)
 | _ => none
noncomputable def b3 : Nat -> Option (PT TT)
 | 21 => some (loc [some 36, some 90, some 97, some 5, none] c21.pt)
 | f => b30 f
theorem itsOK_get {rel : Rel TT} : ∀ {its : List RIt} {gl : List Pt} {i : Nat} {p : Pt}, itsOK rel its gl -> gl[i]? = some p -> ∃ it, its[i]? = some it /\ itOK rel it p
 | [], [], _, _, _, h => by simp at h
 | [], _ :: _, _, _, h, _ => h.elim
 | _ :: _, [], _, _, h, _ => h.elim
 | a :: r, b :: q, 0, p, h, hp => by
   obtain rfl : b = p := by simpa using hp
   exact ⟨a, rfl, h.1⟩
 | a :: r, b :: q, i + 1, p, h, hp => by
   obtain ⟨it, h1, h2⟩ := itsOK_get (i := i) h.2 (by simpa using hp)
   exact ⟨it, by simpa using h1, h2⟩
theorem bytes_ints (l : List Int) : isBytes (List.flatMap (fun n => [Value.int IntKind.u8 n]) l) := by
 intro v hv
 rw [List.mem_flatMap] at hv
 obtain ⟨n, _, h⟩ := hv
 exact ⟨n, by simpa using h⟩
end Pc
/-
 prefixAwake answers true.
-/
set_option linter.unusedVariables false
set_option maxRecDepth 100000
open Go Go.Vg Go.Proofs
namespace Pc
def cond_c19 (G : Gl) (m : Fz) (rel : Rel TT) : Prop :=
 ∀ x1 x2 : Nat, ∀ x3 x4 x5 : Nat, x2 = x2 /\ ∀ x6 : Nat, Rf (Value.slice (some (Addr.mk x1 0 none)) 2 2) /\ Rf (Value.slice (some (Addr.mk x1 0 none)) 2 2) /\ ∀ x7 : Nat, x7 = x7 /\ x7 = x7 /\ x7 = x7 /\ x7 = x7 /\ x7 = x7 /\ ∀ x8 : Nat, (Rf (Value.slice (some (Addr.mk x6 0 none)) 0 0) /\ Rf 0) /\ (Rf (Value.slice (some (Addr.mk x8 0 none)) 1 1) /\ Rf 1) /\ ∀ x9 : Value, Rf (Value.slice (some (Addr.mk x1 0 none)) 2 2) /\ Rf (Value.slice (some (Addr.mk x1 0 none)) 2 2) /\ ∀ x10 : Nat, x10 = x10 /\ x10 = x10 /\ x10 = x10 /\ x10 = x10 /\ x10 = x10 /\ ∀ x11 : Nat, (x9 = x9 /\ Rf 1) /\ (Rf (Value.slice (some (Addr.mk x11 0 none)) 1 1) /\ Rf 1) /\ ∀ x12 : Value, ∀ x13 : Nat, x12 = x12 /\ x12 = x12 /\ ∀ x14 : Nat, x14 = x14 /\ x14 = x14 /\ x13 = x13 /\ (x13 = x13 /\ 1 < 28) /\ x14 = x14 /\ x14 = x14 /\ x14 = x14 /\ x12 = x12 /\ (Rf 2 /\ (0 : Int) <= (1 : Int) /\ (1 : Int) <= (2 : Int) /\ (2 : Int) <= (2 : Int)) /\ x12 = x12 /\ x12 = x12 /\ ∀ x15 : Nat, x15 = x15 /\ x15 = x15 /\ x15 = x15 /\ x15 = x15 /\ x15 = x15 /\ x13 = x13 /\ (x13 = x13 /\ 1 < 28) /\ x15 = x15 /\ ∀ x16 : Nat, (x16 = x16 /\ 1 < 28) /\ x13 = x13 /\ x12 = x12 /\ x12 = x12 /\ ∀ x17 : Nat, x17 = x17 /\ x17 = x17 /\ x16 = x16 /\ x17 = x17 /\ Rf (SV.toV (T := TT) (SV.o 7 210 x12 2)) /\ Rf (SV.toV (T := TT) (SV.v (Value.int IntKind.i64 (0 : Int)))) /\ x12 = x12 /\ (x12 = x12 /\ 0 < 2) /\ x12 = x12 /\ x17 = x17 /\ x16 = x16 /\ (x16 = x16 /\ 1 < 28) /\ x12 = x12 /\ x12 = x12 /\ ∀ x18 : Nat, x18 = x18 /\ x18 = x18 /\ x16 = x16 /\ x18 = x18 /\ Rf (SV.toV (T := TT) (SV.o 7 210 x12 2)) /\ Rf (SV.toV (T := TT) (SV.v (Value.int IntKind.i64 (1 : Int)))) /\ x12 = x12 /\ (x12 = x12 /\ 1 < 2) /\ x12 = x12 /\ x18 = x18 /\ x16 = x16 /\ (x16 = x16 /\ 1 < 28) /\ x4 = x4 /\ x12 = x12 /\ x12 = x12 /\ ∀ x19 : Nat, x19 = x19 /\ x19 = x19 /\ x19 = x19 /\ x19 = x19 /\ x19 = x19 /\ ∀ x20 : Nat, (Rf (Value.slice (some (Addr.mk x20 0 none)) 1 1) /\ Rf 1) /\ ∀ x21 : Value, x12 = x12 /\ x12 = x12 /\ ∀ x22 : Nat, x22 = x22 /\ x22 = x22 /\ x22 = x22 /\ x22 = x22 /\ x22 = x22 /\ ∀ x23 : Nat, (x21 = x21 /\ Rf 1) /\ (Rf (Value.slice (some (Addr.mk x23 0 none)) 1 1) /\ Rf 1) /\ ∀ x24 : Value, x3 = x3 /\ x5 = x5 /\ x5 = x5 /\ x5 = x5 /\ x4 = x4 /\ x3 = x3 /\ x3 = x3 /\ x4 = x4 /\ x3 = x3 /\ x4 = x4 /\ ∀ x25 x26 : Nat, ∀ x27 x28 : Nat, ∀ x29 x30 : Nat, ∀ x31 x32 : Nat, ∀ x33 x34 x35 : Nat, x29 = x29 /\ x35 = x35 /\ ∀ x36 : Nat, x27 = x27 /\ ∀ x37 : Nat, x28 = x28 /\ x26 = x26 /\ Rf (Value.slice (some (Addr.mk x25 0 none)) 1 1) /\ Rf (Value.slice (some (Addr.mk x25 0 none)) 1 1) /\ ∀ x38 : Nat, x38 = x38 /\ x38 = x38 /\ x38 = x38 /\ x38 = x38 /\ x35 = x35 /\ x35 = x35 /\ x35 = x35 /\ x35 = x35 /\ ∀ x39 : Nat, x35 = x35 /\ (x35 = x35 /\ 0 < 512) /\ (x35 = x35 /\ 1 < 512) /\ (x35 = x35 /\ 2 < 512) /\ (x35 = x35 /\ 3 < 512) /\ (x35 = x35 /\ 4 < 512) /\ (x35 = x35 /\ 5 < 512) /\ (x35 = x35 /\ 6 < 512) /\ (x35 = x35 /\ 7 < 512) /\ x35 = x35 /\ (8 : Int) ≠ (0 : Int) /\
 x35 = x35 /\ x35 = x35 /\ x35 = x35 /\ x35 = x35 /\ x35 = x35 /\ x35 = x35 /\ x35 = x35 /\ x35 = x35 /\ x35 = x35 /\ x35 = x35 /\ x35 = x35 /\ x35 = x35 /\ x35 = x35 /\ x35 = x35 /\ x31 = x31 /\ x35 = x35 /\ x35 = x35 /\ x35 = x35 /\ x35 = x35 /\ x35 = x35 /\ x35 = x35 /\ x35 = x35 /\ x35 = x35 /\ x35 = x35 /\ x35 = x35 /\ x35 = x35 /\ ∀ x40 : Nat, x35 = x35 /\ (x35 = x35 /\ 0 < 512) /\ (x35 = x35 /\ 1 < 512) /\ (x35 = x35 /\ 2 < 512) /\ (x35 = x35 /\ 3 < 512) /\ (x35 = x35 /\ 4 < 512) /\ (x35 = x35 /\ 5 < 512) /\ (x35 = x35 /\ 6 < 512) /\ (x35 = x35 /\ 7 < 512) /\ x35 = x35 /\ (8 : Int) ≠ (0 : Int) /\ x35 = x35 /\ x35 = x35 /\ x35 = x35 /\ x35 = x35 /\ x35 = x35 /\ x35 = x35 /\ x35 = x35 /\ x35 = x35 /\ x34 = x34 /\ x34 = x34 /\ x34 = x34 /\ x34 = x34 /\ x34 = x34 /\ x34 = x34 /\ x34 = x34 /\ x34 = x34 /\ x34 = x34 /\ ∀ x41 : Value, ((capVal x41 = 64) -> x34 = x34 /\ x34 = x34 /\ x41 = x41 /\ ((0 : Nat) <= 1 /\ 1 <= 64 /\ (0 : Int) <= (0 : Int) /\ (0 : Int) <= (1 : Int) /\ 1 <= 64) /\ ∀ x42 : Value, (x41 = x41 /\ 0 <= 1 /\ 1 <= 64) /\ (x35 = x35 /\ 1 <= 512) /\ x35 = x35 /\ x35 = x35 /\ x35 = x35 /\ x35 = x35 /\ x35 = x35 /\ ∀ x43 : Nat, x34 = x34 /\ x34 = x34 /\ x41 = x41 /\ ((0 : Nat) <= 1 /\ 1 <= 64 /\ (0 : Int) <= (0 : Int) /\ (0 : Int) <= (1 : Int) /\ 1 <= 64) /\ ∀ x44 : Value, (Rf (Value.slice (some (Addr.mk x43 0 none)) 0 0) /\ Rf 0) /\ (x41 = x41 /\ 0 <= 1 /\ 1 <= 64) /\ ∀ x45 : Value, x30 = x30 /\ x32 = x32 /\ x33 = x33 /\ x33 = x33 /\ x33 = x33 /\ x32 = x32 /\ x30 = x30 /\ x31 = x31 /\ x30 = x30 /\ x31 = x31 /\ Rf (SV.toV (T := TT) (SV.v (Value.int IntKind.i64 (3 : Int)))) /\ x31 = x31 /\ x32 = x32 /\ x30 = x30 /\ x31 = x31 /\ x32 = x32 /\ x24 = x24 /\ (x24 = x24 /\ 1 < 2) /\ x24 = x24 /\ x45 = x45 /\ x45 = x45 /\ ∃ x46 : Unit, True /\ ((5 : Int) == (5 : Int)) = true /\
 m = m /\ (relLe rel (relAdd (relAdd (relAdd (relAdd (relAdd (relAdd (relAdd (relAdd (relAdd (relAdd rel 90 (Value.slice (some (Addr.mk x1 0 none)) 2 2) [Cd.mk (3 : Int) (0 : Int) (1 : Int) (0 : Int), Cd.mk (5 : Int) (0 : Int) (1 : Int) (0 : Int)]) 210 x12 (List.set (List.set ([] ++ [Cd.mk (3 : Int) (0 : Int) (1 : Int) (0 : Int)] ++ [Cd.mk (5 : Int) (0 : Int) (1 : Int) (0 : Int)]) 0 (Cd.mk (3 : Int) (0 : Int) (1 : Int) (0 : Int))) 1 (Cd.mk (5 : Int) (0 : Int) (1 : Int) (1 : Int)))) 210 (Value.slice (some (Addr.mk x8 0 none)) 1 1) [Cd.mk (3 : Int) (0 : Int) (1 : Int) (0 : Int)]) 210 (Value.slice (some (Addr.mk x11 0 none)) 1 1) [Cd.mk (5 : Int) (0 : Int) (1 : Int) (0 : Int)]) 90 (Value.slice (some (Addr.mk x20 0 none)) 1 1) [Cd.mk (3 : Int) (0 : Int) (1 : Int) (0 : Int)]) 90 x24 ([Cd.mk (3 : Int) (0 : Int) (1 : Int) (0 : Int)] ++ [Cd.mk (5 : Int) (0 : Int) (1 : Int) (1 : Int)])) 90 (Value.slice (some (Addr.mk x23 0 none)) 1 1) [Cd.mk (5 : Int) (0 : Int) (1 : Int) (1 : Int)]) 36 (Value.slice (some (Addr.mk x25 0 none)) 1 1) [Pt.mk (0 : Int) (5 : Int) (3 : Int) (Sl.mk none 0 0)]) 5 x41 (List.take 0 (List.replicate 64 (0 : Int)) ++ List.take 1 (List.drop 0 (List.take 1 (List.set (List.set (List.set (List.set (List.set (List.set (List.set (List.set (List.set (List.set (List.set (List.set (List.set (List.set (List.set (List.set (List.replicate 512 (0 : Int)) 0 (0 : Int)) 1 (0 : Int)) 2 (0 : Int)) 3 (0 : Int)) 4 (0 : Int)) 5 (0 : Int)) 6 (0 : Int)) 7 (0 : Int)) 0 (5 : Int)) 1 (0 : Int)) 2 (0 : Int)) 3 (0 : Int)) 4 (0 : Int)) 5 (0 : Int)) 6 (0 : Int)) 7 (0 : Int)))) ++ List.drop 1 (List.replicate 64 (0 : Int)))) 5 x45 ([] ++ List.drop 0 (List.take 1 (List.take 0 (List.replicate 64 (0 : Int)) ++ List.take 1 (List.drop 0 (List.take 1 (List.set (List.set (List.set (List.set (List.set (List.set (List.set (List.set (List.set (List.set (List.set (List.set (List.set (List.set (List.set (List.set (List.replicate 512 (0 : Int)) 0 (0 : Int)) 1 (0 : Int)) 2 (0 : Int)) 3 (0 : Int)) 4 (0 : Int)) 5 (0 : Int)) 6 (0 : Int)) 7 (0 : Int)) 0 (5 : Int)) 1 (0 : Int)) 2 (0 : Int)) 3 (0 : Int)) 4 (0 : Int)) 5 (0 : Int)) 6 (0 : Int)) 7 (0 : Int)))) ++ List.drop 1 (List.replicate 64 (0 : Int))))))) /\ True)
noncomputable def law_c19 (G : Gl) (m : Fz) (rel : Rel TT) : VCT := fnx (CK G) (INK G) noAnn Tryz.f19 (c19.args (m, rel)) (c19.H (m, rel)) (outK true 2 (c19.ret (m, rel))) (c19.pan (m, rel))
theorem eq_c19 (G : Gl) (m : Fz) (rel : Rel TT) : cond_c19 G m rel = (law_c19 G m rel).den := by kernel_rfl
theorem ok_c19 (G : Gl) (m : Fz) (rel : Rel TT) : cond_c19 G m rel := by
 unfold cond_c19
 simp
 intro _ _ _ _ _ _ _ _ _ _ _
 iterate 10 refine (relLe.trans ?_ (relLe.add _ _ _ _))
 exact relLe.refl _
theorem s19 (G : Gl) : SpecOK (CC G) 19 c19.pt := specK G (fn := Tryz.f19) rfl c19 fun ⟨m, rel⟩ h => Met.of (eq_c19 G m rel) (ok_c19 G m rel)
end Pc
/-
 The reference's ReadAll does what its contract says.
-/
set_option linter.unusedVariables false
set_option maxRecDepth 100000
open Go Go.Vg Go.Proofs
namespace Pc
def cond_c20 (G : Gl) (x : XR) : Prop :=
 ∀ x1 : Fz, ((∀ (n : Nat), n ∈ Prod.fst (Prod.snd (Prod.snd (Prod.snd (x1, x.rel, x.vs, nats (ints x.bs), x.big)))) -> n < 256) /\ List.length (nats (ints x.bs)) <= 1000000) /\ (Rf x.vs /\ ints x.bs = ints (nats (ints x.bs))) /\ Rf x.big /\ x1 = x1 /\ Rl x.rel /\ ∀ x2 : Value, True -> x1 = x1 /\ ∀ x3 : Nat, x3 = x3 /\ x3 = x3 /\ ∃ x4 : X20, ph20 x x4 /\ (Value.slice none 0 0 = x4.gx /\ 0 = x4.gl.length) /\ (0 : Int) = (x4.i : Int) /\ x.m = x.m /\ relLe x4.rel (noteS (SV.segs (SV.ro 5 x2 (ints (bitsOf x.big (nats (ints x.bs)))))) x.rel) /\ x3 = x3 /\ (x2 = x4.w /\ ints (bitsOf x.big (nats (ints x.bs))) = ints x4.B) /\ (Value.slice none 0 0 = x4.gx /\ [] = x4.gl) /\ ∀ x5 : X20, (ph20 x x5) -> Br (decide ((x5.i : Int) < (x.l.length : Int))) (inRange (x5.i : Int) x.l.length /\ x5.i < x.l.length /\ x5.i < x.l.length /\ ∀ x6 : Pt, (x.l[x5.i]? = some x6) -> inRange (x5.i : Int) x.l.length /\ x5.i < x.l.length /\ x5.i < x.l.length /\ ∀ x7 : Pt, (x.l[x5.i]? = some x7) -> ∀ x8 : Nat, Rf (SV.toV (T := TT) (SV.ro 36 x.vl x.l)) /\ Rf (SV.toV (T := TT) (SV.v (Value.int IntKind.i64 (x5.i : Int)))) /\ inRange (x5.i : Int) x.l.length /\ Rf (SV.toV (T := TT) (SV.rq 36 x.vl x.l x5.i 0)) /\ x5.i < x.l.length /\ Rf (SV.toV (T := TT) (SV.rq 36 x.vl x.l x5.i 0)) /\ x5.i < x.l.length /\ ∀ x9 : Pt, (x.l[x5.i]? = some x9) -> SV.toV (T := TT) (cellS (Value.int IntKind.i64 x9.kind)) = SV.toV (T := TT) (SV.v (Value.int IntKind.i64 x6.kind)) /\ Rf (SV.toV (T := TT) (SV.ro 36 x.vl x.l)) /\ Rf (SV.toV (T := TT) (SV.v (Value.int IntKind.i64 (x5.i : Int)))) /\ inRange (x5.i : Int) x.l.length /\ Rf (SV.toV (T := TT) (SV.rq 36 x.vl x.l x5.i 0)) /\ x5.i < x.l.length /\ Rf (SV.toV (T := TT) (SV.rq 36 x.vl x.l x5.i 2)) /\ x5.i < x.l.length /\ ∀ x10 : Pt, (x.l[x5.i]? = some x10) -> SV.toV (T := TT) (cellS (Value.int IntKind.u64 x10.n)) = SV.toV (T := TT) (SV.v (Value.int IntKind.u64 x7.n)) /\ (Rf (SV.toV (T := TT) (SV.a ([Seg.c (SV.v (Value.int IntKind.i64 x6.kind)), Seg.c (SV.v (Value.int IntKind.u64 (0 : Int)))] ++ SV.segs (SV.v (Value.int IntKind.u64 x7.n)) ++ [nilS])))) /\ x8 = x8 /\ (x8 = x8 /\ Br (x6.kind != (4 : Int)) (Br (decide ((x5.i : Int) > (0 : Int))) (inI64 ((x5.i : Int) - (1 : Int)) /\ inRange ((x5.i : Int) - (1 : Int)) x.l.length /\ Int.toNat ((x5.i : Int) - (1 : Int)) < x.l.length /\ Int.toNat ((x5.i : Int) - (1 : Int)) < x.l.length /\ ∀ x11 : Pt, (x.l[Int.toNat ((x5.i : Int) - (1 : Int))]? = some x11) -> Br (x11.kind == (4 : Int)) (((∃ x12 : Unit, bad20 x /\ Rn /\ Rz /\ Rz /\ Rf false /\ x.m = x.m /\ relLe x.rel (relAdd x5.rel 36 x5.gx x5.gl) /\ True) \/ (∃ x12 : Y20, ps20 x x12 /\ (Rn /\ Value.slice none 0 0 = x12.gv /\ x12.gl = []) /\ (0 : Int) = wrong x12.st x12.gl.length /\ ((0 : Int) = (↑((8 : Nat) * x.bs.length - x12.left) : Int)) /\ false = true /\ x.m = x.m /\ relLe x12.rel (relAdd x5.rel 36 x5.gx x5.gl) /\ True))) (∃ x12 : Unit, (pb x.l x5.i = true -> x6.kind = (4 : Int)) /\ (Rf x5.gx /\ Rf x5.gl.length) /\ x.m = x.m /\ Rl x5.rel /\ x3 = x3 /\ (Rf x5.w /\ Rf (ints x5.B)) /\ (Rf x5.gx /\ Rf x5.gl) /\
 x8 = x8 /\ Rf x6.kind /\ Rz /\ Rf x7.n /\ Rn /\ True)) (∃ x11 : Unit, (pb x.l x5.i = true -> x6.kind = (4 : Int)) /\ (Rf x5.gx /\ Rf x5.gl.length) /\ x.m = x.m /\ Rl x5.rel /\ x3 = x3 /\ (Rf x5.w /\ Rf (ints x5.B)) /\ (Rf x5.gx /\ Rf x5.gl) /\ x8 = x8 /\ Rf x6.kind /\ Rz /\ Rf x7.n /\ Rn /\ True)) (∃ x11 : Unit, (pb x.l x5.i = true -> x6.kind = (4 : Int)) /\ (Rf x5.gx /\ Rf x5.gl.length) /\ x.m = x.m /\ Rl x5.rel /\ x3 = x3 /\ (Rf x5.w /\ Rf (ints x5.B)) /\ (Rf x5.gx /\ Rf x5.gl) /\ x8 = x8 /\ Rf x6.kind /\ Rz /\ Rf x7.n /\ Rn /\ True)) /\ (∀ x11 : Unit, (pb x.l x5.i = true -> x6.kind = (4 : Int)) -> x3 = x3 /\ x8 = x8 /\ Br (x6.kind == (0 : Int)) (x8 = x8 /\ ∀ x12 : Fz, ((∀ (b : Nat), b ∈ XB.B (Prod.fst (XB.mk x12 x5.rel x3 x5.w (nats (ints x5.B)), x7.n.toNat)) -> b < 2) /\ List.length (nats (ints x5.B)) <= 8000000 /\ x7.n.toNat <= 64) /\ (x3 = x3 /\ Ro) /\ x7.n = (x7.n.toNat : Int) /\ x12 = x12 /\ Rl x5.rel /\ x3 = x3 /\ (Rf x5.w /\ ints x5.B = ints (nats (ints x5.B))) /\ (∀ x13 : Unit, (List.length (nats (ints x5.B)) < x7.n.toNat) -> x12 = x12 /\ x8 = x8 /\ (inI64 ((↑(List.length (ints (bitsOf x.big (nats (ints x.bs))))) : Int) - (↑(List.length (ints x5.B)) : Int))) /\ (Rf x5.gx /\ Rf x5.gl.length) /\ ((∃ x14 : Unit, bad20 x /\ False /- "match: values of two makes" -/) \/ (∃ x14 : Y20, ps20 x x14 /\ (x5.gx = x14.gv /\ x5.gl = x14.gl) /\ (x5.i : Int) = wrong x14.st x14.gl.length /\ ((↑(List.length (ints (bitsOf x.big (nats (ints x.bs))))) : Int) - (↑(List.length (ints x5.B)) : Int) = (↑((8 : Nat) * x.bs.length - x14.left) : Int)) /\ Rf true /\ x.m = x.m /\ relLe x14.rel x5.rel /\ True))) /\ (∀ x13 : Value, (x7.n.toNat <= List.length (nats (ints x5.B))) -> x12 = x12 /\ x8 = x8 /\ x8 = x8 /\ ∀ x14 : Nat, (Rf x5.gx /\ Rf x5.gl.length) /\ (Rf (Value.slice (some (Addr.mk x14 0 none)) 1 1) /\ 1 = List.length [Pt.mk x6.kind (↑(numL (List.take x7.n.toNat (nats (ints x5.B)))) : Int) x7.n (Sl.mk none 0 0)]) /\ (room (x5.gl.length + List.length [Pt.mk x6.kind (↑(numL (List.take x7.n.toNat (nats (ints x5.B)))) : Int) x7.n (Sl.mk none 0 0)]) 48) /\ ∀ x15 : Value, inI64 ((x5.i : Int) + (1 : Int)) /\ ∃ x16 : X20, (ph20 x x16 /\ x.l.length - x16.i < x.l.length - x5.i) /\ (x15 = x16.gx /\ x5.gl.length + List.length [Pt.mk x6.kind (↑(numL (List.take x7.n.toNat (nats (ints x5.B)))) : Int) x7.n (Sl.mk none 0 0)] = x16.gl.length) /\ (x5.i : Int) + (1 : Int) = (x16.i : Int) /\ x.m = x.m /\ (relLe x16.rel (relAdd x5.rel 36 (Value.slice (some (Addr.mk x14 0 none)) 1 1) [Pt.mk x6.kind (↑(numL (List.take x7.n.toNat (nats (ints x5.B)))) : Int) x7.n (Sl.mk none 0 0)])) /\ x3 = x3 /\ (x13 = x16.w /\ ints (List.drop x7.n.toNat (nats (ints x5.B))) = ints x16.B) /\ (x15 = x16.gx /\ x5.gl ++ [Pt.mk x6.kind (↑(numL (List.take x7.n.toNat (nats (ints x5.B)))) : Int) x7.n (Sl.mk none 0 0)] = x16.gl) /\ True)) (Br (x6.kind == (1 : Int)) (∀ x12 : Fz, ((∀ (b : Nat), b ∈ XB.B (Prod.fst (XB.mk x12 x5.rel x3 x5.w (nats (ints x5.B)), x.vc, lensOf (canonL x.lens))) -> b < 2) /\ List.length (nats (ints x5.B)) <= 8000000 /\ Good (lensOf (canonL x.lens))) /\ (x3 = x3 /\ Ro) /\
 (Rf x.vc /\ canonL x.lens = canonL (lensOf (canonL x.lens))) /\ x12 = x12 /\ Rl x5.rel /\ x3 = x3 /\ (Rf x5.w /\ ints x5.B = ints (nats (ints x5.B))) /\ (∀ x13 : Unit, (symM (lensOf (canonL x.lens)) (nats (ints x5.B)) = none) -> x12 = x12 /\ x8 = x8 /\ (inI64 ((↑(List.length (ints (bitsOf x.big (nats (ints x.bs))))) : Int) - (↑(List.length (ints x5.B)) : Int))) /\ (Rf x5.gx /\ Rf x5.gl.length) /\ ((∃ x14 : Unit, bad20 x /\ False /- "match: values of two makes" -/) \/ (∃ x14 : Y20, ps20 x x14 /\ (x5.gx = x14.gv /\ x5.gl = x14.gl) /\ (x5.i : Int) = wrong x14.st x14.gl.length /\ ((↑(List.length (ints (bitsOf x.big (nats (ints x.bs))))) : Int) - (↑(List.length (ints x5.B)) : Int) = (↑((8 : Nat) * x.bs.length - x14.left) : Int)) /\ Rf true /\ x.m = x.m /\ relLe x14.rel x5.rel /\ True))) /\ (∀ x13 : Value, (symM (lensOf (canonL x.lens)) (nats (ints x5.B)) = some (cd (lensOf (canonL x.lens)) (numL (nats (ints x5.B))))) -> x12 = x12 /\ x8 = x8 /\ x8 = x8 /\ ∀ x14 : Nat, (Rf x5.gx /\ Rf x5.gl.length) /\ (Rf (Value.slice (some (Addr.mk x14 0 none)) 1 1) /\ 1 = List.length [Pt.mk x6.kind (↑(cd (lensOf (canonL x.lens)) (numL (nats (ints x5.B)))) : Int) x7.n (Sl.mk none 0 0)]) /\ (room (x5.gl.length + List.length [Pt.mk x6.kind (↑(cd (lensOf (canonL x.lens)) (numL (nats (ints x5.B)))) : Int) x7.n (Sl.mk none 0 0)]) 48) /\ ∀ x15 : Value, inI64 ((x5.i : Int) + (1 : Int)) /\ ∃ x16 : X20, (ph20 x x16 /\ x.l.length - x16.i < x.l.length - x5.i) /\ (x15 = x16.gx /\ x5.gl.length + List.length [Pt.mk x6.kind (↑(cd (lensOf (canonL x.lens)) (numL (nats (ints x5.B)))) : Int) x7.n (Sl.mk none 0 0)] = x16.gl.length) /\ (x5.i : Int) + (1 : Int) = (x16.i : Int) /\ x.m = x.m /\ (relLe x16.rel (relAdd x5.rel 36 (Value.slice (some (Addr.mk x14 0 none)) 1 1) [Pt.mk x6.kind (↑(cd (lensOf (canonL x.lens)) (numL (nats (ints x5.B)))) : Int) x7.n (Sl.mk none 0 0)])) /\ x3 = x3 /\ (x13 = x16.w /\ ints (List.drop (cl (lensOf (canonL x.lens)) (numL (nats (ints x5.B)))) (nats (ints x5.B))) = ints x16.B) /\ (x15 = x16.gx /\ x5.gl ++ [Pt.mk x6.kind (↑(cd (lensOf (canonL x.lens)) (numL (nats (ints x5.B)))) : Int) x7.n (Sl.mk none 0 0)] = x16.gl) /\ True)) (Br (x6.kind == (2 : Int)) (∀ x12 : Fz, ((∀ (b : Nat), b ∈ XB.B (Prod.fst (XB.mk x12 x5.rel x3 x5.w (nats (ints x5.B)), x.vc, lensOf (canonL x.lens))) -> b < 2) /\ List.length (nats (ints x5.B)) <= 8000000 /\ Good (lensOf (canonL x.lens))) /\ (x3 = x3 /\ Ro) /\ (Rf x.vc /\ canonL x.lens = canonL (lensOf (canonL x.lens))) /\ x12 = x12 /\ Rl x5.rel /\ x3 = x3 /\ (Rf x5.w /\ ints x5.B = ints (nats (ints x5.B))) /\ (∀ x13 : Unit, (symM (lensOf (canonL x.lens)) (nats (ints x5.B)) = none) -> x12 = x12 /\ x8 = x8 /\ (inI64 ((↑(List.length (ints (bitsOf x.big (nats (ints x.bs))))) : Int) - (↑(List.length (ints x5.B)) : Int))) /\ (Rf x5.gx /\ Rf x5.gl.length) /\ ((∃ x14 : Unit, bad20 x /\ False /- "match: values of two makes" -/) \/ (∃ x14 : Y20, ps20 x x14 /\ (x5.gx = x14.gv /\ x5.gl = x14.gl) /\ (x5.i : Int) = wrong x14.st x14.gl.length /\
 ((↑(List.length (ints (bitsOf x.big (nats (ints x.bs))))) : Int) - (↑(List.length (ints x5.B)) : Int) = (↑((8 : Nat) * x.bs.length - x14.left) : Int)) /\ Rf true /\ x.m = x.m /\ relLe x14.rel x5.rel /\ True))) /\ (∀ x13 : Value, (symM (lensOf (canonL x.lens)) (nats (ints x5.B)) = some (cd (lensOf (canonL x.lens)) (numL (nats (ints x5.B))))) -> x12 = x12 /\ x8 = x8 /\ x8 = x8 /\ Br (decide ((↑(cd (lensOf (canonL x.lens)) (numL (nats (ints x5.B)))) : Int) >= IntKind.wrap IntKind.u64 (↑(List.length (rgL 0 x.extra)) : Int))) (((∃ x14 : Unit, bad20 x /\ Rn /\ Rz /\ Rz /\ Rf false /\ x.m = x.m /\ relLe x.rel (relAdd x5.rel 36 x5.gx x5.gl) /\ True) \/ (∃ x14 : Y20, ps20 x x14 /\ (Rn /\ Value.slice none 0 0 = x14.gv /\ x14.gl = []) /\ (0 : Int) = wrong x14.st x14.gl.length /\ ((0 : Int) = (↑((8 : Nat) * x.bs.length - x14.left) : Int)) /\ false = true /\ x.m = x.m /\ relLe x14.rel (relAdd x5.rel 36 x5.gx x5.gl) /\ True))) (x8 = x8 /\ (inRange (↑(cd (lensOf (canonL x.lens)) (numL (nats (ints x5.B)))) : Int) (List.length (rgL 0 x.extra))) /\ (cd (lensOf (canonL x.lens)) (numL (nats (ints x5.B)))) < List.length (rgL 0 x.extra) /\ ∀ x14 : Rg, ((rgL 0 x.extra)[(cd (lensOf (canonL x.lens)) (numL (nats (ints x5.B))))]? = some x14) -> ∀ x15 : Nat, x15 = x15 /\ x15 = x15 /\ ∀ x16 : Fz, ((∀ (b : Nat), b ∈ XB.B (Prod.fst (XB.mk x16 (XB.rel (Prod.fst (XB.mk x12 x5.rel x3 x5.w (nats (ints x5.B)), x.vc, lensOf (canonL x.lens)))) (XB.b (Prod.fst (XB.mk x12 x5.rel x3 x5.w (nats (ints x5.B)), x.vc, lensOf (canonL x.lens)))) x13 (nats (ints (List.drop (cl (Prod.snd (Prod.snd (XB.mk x12 x5.rel x3 x5.w (nats (ints x5.B)), x.vc, lensOf (canonL x.lens)))) (numL (XB.B (Prod.fst (XB.mk x12 x5.rel x3 x5.w (nats (ints x5.B)), x.vc, lensOf (canonL x.lens)))))) (XB.B (Prod.fst (XB.mk x12 x5.rel x3 x5.w (nats (ints x5.B)), x.vc, lensOf (canonL x.lens))))))), Int.toNat (IntKind.wrap IntKind.u64 x14.len))) -> b < 2) /\ List.length (nats (ints (List.drop (cl (lensOf (canonL x.lens)) (numL (nats (ints x5.B)))) (nats (ints x5.B))))) <= 8000000 /\ Int.toNat (IntKind.wrap IntKind.u64 x14.len) <= 64) /\ (x3 = x3 /\ Ro) /\ (IntKind.wrap IntKind.u64 x14.len = (↑(Int.toNat (IntKind.wrap IntKind.u64 x14.len)) : Int)) /\ x16 = x16 /\ Rl x5.rel /\ x3 = x3 /\ (x13 = x13 /\ ints (List.drop (cl (lensOf (canonL x.lens)) (numL (nats (ints x5.B)))) (nats (ints x5.B))) = ints (nats (ints (List.drop (cl (lensOf (canonL x.lens)) (numL (nats (ints x5.B)))) (nats (ints x5.B)))))) /\ (∀ x17 : Unit, (List.length (nats (ints (List.drop (cl (lensOf (canonL x.lens)) (numL (nats (ints x5.B)))) (nats (ints x5.B))))) < Int.toNat (IntKind.wrap IntKind.u64 x14.len)) -> x16 = x16 /\ x15 = x15 /\ x8 = x8 /\ (inI64 ((↑(List.length (ints (bitsOf x.big (nats (ints x.bs))))) : Int) - (↑(List.length (ints x5.B)) : Int))) /\ (Rf x5.gx /\ Rf x5.gl.length) /\ ((∃ x18 : Unit, bad20 x /\ False /- "match: values of two makes" -/) \/ (∃ x18 : Y20, ps20 x x18 /\ (x5.gx = x18.gv /\ x5.gl = x18.gl) /\ (x5.i : Int) = wrong x18.st x18.gl.length /\
 ((↑(List.length (ints (bitsOf x.big (nats (ints x.bs))))) : Int) - (↑(List.length (ints x5.B)) : Int) = (↑((8 : Nat) * x.bs.length - x18.left) : Int)) /\ Rf true /\ x.m = x.m /\ relLe x18.rel x5.rel /\ True))) /\ (∀ x17 : Value, (Int.toNat (IntKind.wrap IntKind.u64 x14.len) <= List.length (nats (ints (List.drop (cl (lensOf (canonL x.lens)) (numL (nats (ints x5.B)))) (nats (ints x5.B)))))) -> x16 = x16 /\ x15 = x15 /\ x8 = x8 /\ x8 = x8 /\ ∀ x18 : Nat, (Rf x5.gx /\ Rf x5.gl.length) /\ (Rf (Value.slice (some (Addr.mk x18 0 none)) 1 1) /\ 1 = List.length [Pt.mk x6.kind (IntKind.wrap IntKind.u64 (IntKind.wrap IntKind.u64 x14.base + (↑(numL (List.take (Int.toNat (IntKind.wrap IntKind.u64 x14.len)) (nats (ints (List.drop (cl (lensOf (canonL x.lens)) (numL (nats (ints x5.B)))) (nats (ints x5.B))))))) : Int))) x7.n (Sl.mk none 0 0)]) /\ (room (x5.gl.length + List.length [Pt.mk x6.kind (IntKind.wrap IntKind.u64 (IntKind.wrap IntKind.u64 x14.base + (↑(numL (List.take (Int.toNat (IntKind.wrap IntKind.u64 x14.len)) (nats (ints (List.drop (cl (lensOf (canonL x.lens)) (numL (nats (ints x5.B)))) (nats (ints x5.B))))))) : Int))) x7.n (Sl.mk none 0 0)]) 48) /\ ∀ x19 : Value, inI64 ((x5.i : Int) + (1 : Int)) /\ ∃ x20 : X20, (ph20 x x20 /\ x.l.length - x20.i < x.l.length - x5.i) /\ (x19 = x20.gx /\ x5.gl.length + List.length [Pt.mk x6.kind (IntKind.wrap IntKind.u64 (IntKind.wrap IntKind.u64 x14.base + (↑(numL (List.take (Int.toNat (IntKind.wrap IntKind.u64 x14.len)) (nats (ints (List.drop (cl (lensOf (canonL x.lens)) (numL (nats (ints x5.B)))) (nats (ints x5.B))))))) : Int))) x7.n (Sl.mk none 0 0)] = x20.gl.length) /\ (x5.i : Int) + (1 : Int) = (x20.i : Int) /\ x.m = x.m /\ (relLe x20.rel (relAdd x5.rel 36 (Value.slice (some (Addr.mk x18 0 none)) 1 1) [Pt.mk x6.kind (IntKind.wrap IntKind.u64 (IntKind.wrap IntKind.u64 x14.base + (↑(numL (List.take (Int.toNat (IntKind.wrap IntKind.u64 x14.len)) (nats (ints (List.drop (cl (lensOf (canonL x.lens)) (numL (nats (ints x5.B)))) (nats (ints x5.B))))))) : Int))) x7.n (Sl.mk none 0 0)])) /\ x3 = x3 /\ (x17 = x20.w /\ ints (List.drop (Int.toNat (IntKind.wrap IntKind.u64 x14.len)) (nats (ints (List.drop (cl (lensOf (canonL x.lens)) (numL (nats (ints x5.B)))) (nats (ints x5.B)))))) = ints x20.B) /\ (x19 = x20.gx /\ x5.gl ++ [Pt.mk x6.kind (IntKind.wrap IntKind.u64 (IntKind.wrap IntKind.u64 x14.base + (↑(numL (List.take (Int.toNat (IntKind.wrap IntKind.u64 x14.len)) (nats (ints (List.drop (cl (lensOf (canonL x.lens)) (numL (nats (ints x5.B)))) (nats (ints x5.B))))))) : Int))) x7.n (Sl.mk none 0 0)] = x20.gl) /\ True)))) (Br (x6.kind == (3 : Int)) (x3 = x3 /\ (8 : Int) ≠ (0 : Int) /\ ∀ x12 : Fz, ((∀ (b : Nat), b ∈ XB.B (Prod.fst (XB.mk x12 x5.rel x3 x5.w (nats (ints x5.B)), Int.toNat (IntKind.wrap IntKind.u64 (Int.tmod (↑(List.length (ints x5.B)) : Int) (8 : Int))))) -> b < 2) /\ List.length (nats (ints x5.B)) <= 8000000 /\ Int.toNat (IntKind.wrap IntKind.u64 (Int.tmod (↑(List.length (ints x5.B)) : Int) (8 : Int))) <= 64) /\ (x3 = x3 /\ Ro) /\
 (IntKind.wrap IntKind.u64 (Int.tmod (↑(List.length (ints x5.B)) : Int) (8 : Int)) = (↑(Int.toNat (IntKind.wrap IntKind.u64 (Int.tmod (↑(List.length (ints x5.B)) : Int) (8 : Int)))) : Int)) /\ x12 = x12 /\ Rl x5.rel /\ x3 = x3 /\ (Rf x5.w /\ ints x5.B = ints (nats (ints x5.B))) /\ (∀ x13 : Unit, (List.length (nats (ints x5.B)) < Int.toNat (IntKind.wrap IntKind.u64 (Int.tmod (↑(List.length (ints x5.B)) : Int) (8 : Int)))) -> x12 = x12 /\ x8 = x8 /\ (inI64 ((↑(List.length (ints (bitsOf x.big (nats (ints x.bs))))) : Int) - (↑(List.length (ints x5.B)) : Int))) /\ (Rf x5.gx /\ Rf x5.gl.length) /\ ((∃ x14 : Unit, bad20 x /\ False /- "match: values of two makes" -/) \/ (∃ x14 : Y20, ps20 x x14 /\ (x5.gx = x14.gv /\ x5.gl = x14.gl) /\ (x5.i : Int) = wrong x14.st x14.gl.length /\ ((↑(List.length (ints (bitsOf x.big (nats (ints x.bs))))) : Int) - (↑(List.length (ints x5.B)) : Int) = (↑((8 : Nat) * x.bs.length - x14.left) : Int)) /\ Rf true /\ x.m = x.m /\ relLe x14.rel x5.rel /\ True))) /\ (∀ x13 : Value, (Int.toNat (IntKind.wrap IntKind.u64 (Int.tmod (↑(List.length (ints x5.B)) : Int) (8 : Int))) <= List.length (nats (ints x5.B))) -> x12 = x12 /\ x8 = x8 /\ x8 = x8 /\ ∀ x14 : Nat, (Rf x5.gx /\ Rf x5.gl.length) /\ (Rf (Value.slice (some (Addr.mk x14 0 none)) 1 1) /\ 1 = List.length [Pt.mk x6.kind (↑(numL (List.take (Int.toNat (IntKind.wrap IntKind.u64 (Int.tmod (↑(List.length (ints x5.B)) : Int) (8 : Int)))) (nats (ints x5.B)))) : Int) x7.n (Sl.mk none 0 0)]) /\ (room (x5.gl.length + List.length [Pt.mk x6.kind (↑(numL (List.take (Int.toNat (IntKind.wrap IntKind.u64 (Int.tmod (↑(List.length (ints x5.B)) : Int) (8 : Int)))) (nats (ints x5.B)))) : Int) x7.n (Sl.mk none 0 0)]) 48) /\ ∀ x15 : Value, inI64 ((x5.i : Int) + (1 : Int)) /\ ∃ x16 : X20, (ph20 x x16 /\ x.l.length - x16.i < x.l.length - x5.i) /\ (x15 = x16.gx /\ x5.gl.length + List.length [Pt.mk x6.kind (↑(numL (List.take (Int.toNat (IntKind.wrap IntKind.u64 (Int.tmod (↑(List.length (ints x5.B)) : Int) (8 : Int)))) (nats (ints x5.B)))) : Int) x7.n (Sl.mk none 0 0)] = x16.gl.length) /\ (x5.i : Int) + (1 : Int) = (x16.i : Int) /\ x.m = x.m /\ (relLe x16.rel (relAdd x5.rel 36 (Value.slice (some (Addr.mk x14 0 none)) 1 1) [Pt.mk x6.kind (↑(numL (List.take (Int.toNat (IntKind.wrap IntKind.u64 (Int.tmod (↑(List.length (ints x5.B)) : Int) (8 : Int)))) (nats (ints x5.B)))) : Int) x7.n (Sl.mk none 0 0)])) /\ x3 = x3 /\ (x13 = x16.w /\ ints (List.drop (Int.toNat (IntKind.wrap IntKind.u64 (Int.tmod (↑(List.length (ints x5.B)) : Int) (8 : Int)))) (nats (ints x5.B))) = ints x16.B) /\ (x15 = x16.gx /\ x5.gl ++ [Pt.mk x6.kind (↑(numL (List.take (Int.toNat (IntKind.wrap IntKind.u64 (Int.tmod (↑(List.length (ints x5.B)) : Int) (8 : Int)))) (nats (ints x5.B)))) : Int) x7.n (Sl.mk none 0 0)] = x16.gl) /\ True)) (Br (x6.kind == (4 : Int)) (x3 = x3 /\ (8 : Int) ≠ (0 : Int) /\ Br (Int.tmod (↑(List.length (ints x5.B)) : Int) (8 : Int) != (0 : Int)) (((∃ x12 : Unit, bad20 x /\ Rn /\ Rz /\ Rz /\ Rf false /\ x.m = x.m /\ relLe x.rel (relAdd x5.rel 36 x5.gx x5.gl) /\ True) \/
 (∃ x12 : Y20, ps20 x x12 /\ (Rn /\ Value.slice none 0 0 = x12.gv /\ x12.gl = []) /\ (0 : Int) = wrong x12.st x12.gl.length /\ ((0 : Int) = (↑((8 : Nat) * x.bs.length - x12.left) : Int)) /\ false = true /\ x.m = x.m /\ relLe x12.rel (relAdd x5.rel 36 x5.gx x5.gl) /\ True))) (x3 = x3 /\ (8 : Int) ≠ (0 : Int) /\ x8 = x8 /\ Br (decide (IntKind.wrap IntKind.u64 (IntKind.wrap IntKind.i64 (Int.tdiv (↑(List.length (ints x5.B)) : Int) (8 : Int))) >= x7.n)) (x3 = x3 /\ (8 : Int) ≠ (0 : Int) /\ (inI64 ((↑(List.length (ints x.bs)) : Int) - IntKind.wrap IntKind.i64 (Int.tdiv (↑(List.length (ints x5.B)) : Int) (8 : Int)))) /\ ((0 : Int) <= (↑(List.length (ints x.bs)) : Int) - IntKind.wrap IntKind.i64 (Int.tdiv (↑(List.length (ints x5.B)) : Int) (8 : Int)) /\ (↑(List.length (ints x.bs)) : Int) - IntKind.wrap IntKind.i64 (Int.tdiv (↑(List.length (ints x5.B)) : Int) (8 : Int)) <= (↑(List.length (ints x.bs)) : Int) /\ (↑(List.length (ints x.bs)) : Int) <= (↑(List.length (ints x.bs)) : Int)) /\ x8 = x8 /\ ((0 : Int) <= (0 : Int) /\ (0 : Int) <= x7.n /\ x7.n <= (↑(List.length (List.drop (Int.toNat ((↑(List.length (ints x.bs)) : Int) - IntKind.wrap IntKind.i64 (Int.tdiv (↑(List.length (ints x5.B)) : Int) (8 : Int)))) (List.take ((List.length (ints x.bs))) (ints x.bs)))) : Int)) /\ ∀ x12 : Nat, Rf (SV.toV (T := TT) (SV.ro 5 x.vs (ints x.bs))) /\ Rf (SV.toV (T := TT) (SV.ro 5 x.vs (ints x.bs))) /\ (Rf (SV.toV (T := TT) (SV.v (Value.int IntKind.i64 (↑(List.length (ints x.bs)) : Int))))) /\ x3 = x3 /\ Rf (SV.toV (T := TT) (SV.ro 5 x5.w (ints x5.B))) /\ (Rf (SV.toV (T := TT) (SV.v (Value.int IntKind.i64 (↑(List.length (ints x5.B)) : Int))))) /\ (8 : Int) ≠ (0 : Int) /\ (Rf (SV.toV (T := TT) (SV.v (Value.int IntKind.i64 (IntKind.wrap IntKind.i64 (Int.tdiv (↑(List.length (ints x5.B)) : Int) (8 : Int))))))) /\ (inI64 ((↑(List.length (ints x.bs)) : Int) - IntKind.wrap IntKind.i64 (Int.tdiv (↑(List.length (ints x5.B)) : Int) (8 : Int)))) /\ (Rf (SV.toV (T := TT) (SV.v (Value.int IntKind.i64 ((↑(List.length (ints x.bs)) : Int) - IntKind.wrap IntKind.i64 (Int.tdiv (↑(List.length (ints x5.B)) : Int) (8 : Int))))))) /\ ((0 : Int) <= (↑(List.length (ints x.bs)) : Int) - IntKind.wrap IntKind.i64 (Int.tdiv (↑(List.length (ints x5.B)) : Int) (8 : Int)) /\ (↑(List.length (ints x.bs)) : Int) - IntKind.wrap IntKind.i64 (Int.tdiv (↑(List.length (ints x5.B)) : Int) (8 : Int)) <= (↑(List.length (ints x.bs)) : Int) /\ (↑(List.length (ints x.bs)) : Int) <= (↑(List.length (ints x.bs)) : Int)) /\ (Rf (SV.toV (T := TT) (SV.ro 5 (sliceVal x.vs (Int.toNat ((↑(List.length (ints x.bs)) : Int) - IntKind.wrap IntKind.i64 (Int.tdiv (↑(List.length (ints x5.B)) : Int) (8 : Int)))) ((List.length (ints x.bs))) 1) (List.drop (Int.toNat ((↑(List.length (ints x.bs)) : Int) - IntKind.wrap IntKind.i64 (Int.tdiv (↑(List.length (ints x5.B)) : Int) (8 : Int)))) (List.take ((List.length (ints x.bs))) (ints x.bs)))))) /\ SV.toV (T := TT) (SV.p 4 x8 (Off.add (Off.lit 0) 2)) = SV.toV (T := TT) (SV.p 4 x8 (Off.lit 2)) /\
 x8 = x8 /\ Rf (SV.toV (T := TT) (SV.v (Value.int IntKind.u64 x7.n))) /\ ((0 : Int) <= (0 : Int) /\ (0 : Int) <= x7.n /\ x7.n <= (↑(List.length (List.drop (Int.toNat ((↑(List.length (ints x.bs)) : Int) - IntKind.wrap IntKind.i64 (Int.tdiv (↑(List.length (ints x5.B)) : Int) (8 : Int)))) (List.take ((List.length (ints x.bs))) (ints x.bs)))) : Int)) /\ (Rf (SV.toV (T := TT) (SV.ro 5 (sliceVal (sliceVal x.vs (Int.toNat ((↑(List.length (ints x.bs)) : Int) - IntKind.wrap IntKind.i64 (Int.tdiv (↑(List.length (ints x5.B)) : Int) (8 : Int)))) ((List.length (ints x.bs))) 1) 0 x7.n.toNat 1) (List.drop 0 (List.take x7.n.toNat (List.drop (Int.toNat ((↑(List.length (ints x.bs)) : Int) - IntKind.wrap IntKind.i64 (Int.tdiv (↑(List.length (ints x5.B)) : Int) (8 : Int)))) (List.take ((List.length (ints x.bs))) (ints x.bs)))))))) /\ (Rf (Value.slice (some (Addr.mk x12 0 none)) 0 0) /\ Rf 0) /\ (room ((0 : Nat) + List.length (List.drop 0 (List.take x7.n.toNat (List.drop (Int.toNat ((↑(List.length (ints x.bs)) : Int) - IntKind.wrap IntKind.i64 (Int.tdiv (↑(List.length (ints x5.B)) : Int) (8 : Int)))) (List.take ((List.length (ints x.bs))) (ints x.bs)))))) 1) /\ ∀ x13 : Value, x8 = x8 /\ x3 = x3 /\ x8 = x8 /\ ((0 : Int) <= IntKind.wrap IntKind.u64 ((8 : Int) * x7.n) /\ IntKind.wrap IntKind.u64 ((8 : Int) * x7.n) <= (↑(List.length (ints x5.B)) : Int) /\ (↑(List.length (ints x5.B)) : Int) <= (↑(List.length (ints x5.B)) : Int)) /\ x3 = x3 /\ Br (!decide (IntKind.wrap IntKind.u64 (IntKind.wrap IntKind.i64 (Int.tdiv (↑(List.length (ints x5.B)) : Int) (8 : Int))) >= x7.n)) ((inI64 ((↑(List.length (ints (bitsOf x.big (nats (ints x.bs))))) : Int) - (↑(List.length (ints x5.B)) : Int))) /\ (Rf x5.gx /\ Rf x5.gl.length) /\ ((∃ x14 : Unit, bad20 x /\ False /- "match: values of two makes" -/) \/ (∃ x14 : Y20, ps20 x x14 /\ (x5.gx = x14.gv /\ x5.gl = x14.gl) /\ (x5.i : Int) = wrong x14.st x14.gl.length /\ ((↑(List.length (ints (bitsOf x.big (nats (ints x.bs))))) : Int) - (↑(List.length (ints x5.B)) : Int) = (↑((8 : Nat) * x.bs.length - x14.left) : Int)) /\ Rf true /\ x.m = x.m /\ (relLe x14.rel (relAdd (noteS (SV.segs (SV.ro 5 (sliceVal x5.w (Int.toNat (IntKind.wrap IntKind.u64 ((8 : Int) * x7.n))) ((List.length (ints x5.B))) 1) (List.drop (Int.toNat (IntKind.wrap IntKind.u64 ((8 : Int) * x7.n))) (List.take ((List.length (ints x5.B))) (ints x5.B))))) x5.rel) 5 x13 ([] ++ List.drop 0 (List.take x7.n.toNat (List.drop (Int.toNat ((↑(List.length (ints x.bs)) : Int) - IntKind.wrap IntKind.i64 (Int.tdiv (↑(List.length (ints x5.B)) : Int) (8 : Int)))) (List.take ((List.length (ints x.bs))) (ints x.bs))))))) /\ True))) (x8 = x8 /\ ∀ x14 : Option Addr, ∀ x15 : Nat, (x13 = Value.slice x14 ((0 : Nat) + List.length (List.drop 0 (List.take x7.n.toNat (List.drop (Int.toNat ((↑(List.length (ints x.bs)) : Int) - IntKind.wrap IntKind.i64 (Int.tdiv (↑(List.length (ints x5.B)) : Int) (8 : Int)))) (List.take ((List.length (ints x.bs))) (ints x.bs)))))) x15) -> ∀ x16 : Nat, (Rf x5.gx /\ Rf x5.gl.length) /\
 (Rf (Value.slice (some (Addr.mk x16 0 none)) 1 1) /\ 1 = List.length [Pt.mk x6.kind (0 : Int) x7.n (Sl.mk x14 ((0 : Nat) + List.length (List.drop 0 (List.take x7.n.toNat (List.drop (Int.toNat ((↑(List.length (ints x.bs)) : Int) - IntKind.wrap IntKind.i64 (Int.tdiv (↑(List.length (ints x5.B)) : Int) (8 : Int)))) (List.take ((List.length (ints x.bs))) (ints x.bs)))))) x15)]) /\ (room (x5.gl.length + List.length [Pt.mk x6.kind (0 : Int) x7.n (Sl.mk x14 ((0 : Nat) + List.length (List.drop 0 (List.take x7.n.toNat (List.drop (Int.toNat ((↑(List.length (ints x.bs)) : Int) - IntKind.wrap IntKind.i64 (Int.tdiv (↑(List.length (ints x5.B)) : Int) (8 : Int)))) (List.take ((List.length (ints x.bs))) (ints x.bs)))))) x15)]) 48) /\ ∀ x17 : Value, inI64 ((x5.i : Int) + (1 : Int)) /\ ∃ x18 : X20, (ph20 x x18 /\ x.l.length - x18.i < x.l.length - x5.i) /\ (x17 = x18.gx /\ x5.gl.length + List.length [Pt.mk x6.kind (0 : Int) x7.n (Sl.mk x14 ((0 : Nat) + List.length (List.drop 0 (List.take x7.n.toNat (List.drop (Int.toNat ((↑(List.length (ints x.bs)) : Int) - IntKind.wrap IntKind.i64 (Int.tdiv (↑(List.length (ints x5.B)) : Int) (8 : Int)))) (List.take ((List.length (ints x.bs))) (ints x.bs)))))) x15)] = x18.gl.length) /\ (x5.i : Int) + (1 : Int) = (x18.i : Int) /\ x.m = x.m /\ (relLe x18.rel (relAdd (relAdd (noteS (SV.segs (SV.ro 5 (sliceVal x5.w (Int.toNat (IntKind.wrap IntKind.u64 ((8 : Int) * x7.n))) ((List.length (ints x5.B))) 1) (List.drop (Int.toNat (IntKind.wrap IntKind.u64 ((8 : Int) * x7.n))) (List.take ((List.length (ints x5.B))) (ints x5.B))))) x5.rel) 5 x13 ([] ++ List.drop 0 (List.take x7.n.toNat (List.drop (Int.toNat ((↑(List.length (ints x.bs)) : Int) - IntKind.wrap IntKind.i64 (Int.tdiv (↑(List.length (ints x5.B)) : Int) (8 : Int)))) (List.take ((List.length (ints x.bs))) (ints x.bs)))))) 36 (Value.slice (some (Addr.mk x16 0 none)) 1 1) [Pt.mk x6.kind (0 : Int) x7.n (Sl.mk x14 ((0 : Nat) + List.length (List.drop 0 (List.take x7.n.toNat (List.drop (Int.toNat ((↑(List.length (ints x.bs)) : Int) - IntKind.wrap IntKind.i64 (Int.tdiv (↑(List.length (ints x5.B)) : Int) (8 : Int)))) (List.take ((List.length (ints x.bs))) (ints x.bs)))))) x15)])) /\ x3 = x3 /\ (sliceVal x5.w (Int.toNat (IntKind.wrap IntKind.u64 ((8 : Int) * x7.n))) ((List.length (ints x5.B))) 1 = x18.w /\ List.drop (Int.toNat (IntKind.wrap IntKind.u64 ((8 : Int) * x7.n))) (List.take ((List.length (ints x5.B))) (ints x5.B)) = ints x18.B) /\ (x17 = x18.gx /\ x5.gl ++ [Pt.mk x6.kind (0 : Int) x7.n (Sl.mk x14 ((0 : Nat) + List.length (List.drop 0 (List.take x7.n.toNat (List.drop (Int.toNat ((↑(List.length (ints x.bs)) : Int) - IntKind.wrap IntKind.i64 (Int.tdiv (↑(List.length (ints x5.B)) : Int) (8 : Int)))) (List.take ((List.length (ints x.bs))) (ints x.bs)))))) x15)] = x18.gl) /\ True)) (Br (!decide (IntKind.wrap IntKind.u64 (IntKind.wrap IntKind.i64 (Int.tdiv (↑(List.length (ints x5.B)) : Int) (8 : Int))) >= x7.n))
 ((inI64 ((↑(List.length (ints (bitsOf x.big (nats (ints x.bs))))) : Int) - (↑(List.length (ints x5.B)) : Int))) /\ (Rf x5.gx /\ Rf x5.gl.length) /\ ((∃ x12 : Unit, bad20 x /\ False /- "match: values of two makes" -/) \/ (∃ x12 : Y20, ps20 x x12 /\ (x5.gx = x12.gv /\ x5.gl = x12.gl) /\ (x5.i : Int) = wrong x12.st x12.gl.length /\ ((↑(List.length (ints (bitsOf x.big (nats (ints x.bs))))) : Int) - (↑(List.length (ints x5.B)) : Int) = (↑((8 : Nat) * x.bs.length - x12.left) : Int)) /\ Rf true /\ x.m = x.m /\ relLe x12.rel x5.rel /\ True))) (x8 = x8 /\ ∀ x12 : Nat, (Rf x5.gx /\ Rf x5.gl.length) /\ (Rf (Value.slice (some (Addr.mk x12 0 none)) 1 1) /\ 1 = List.length [Pt.mk x6.kind (0 : Int) x7.n (Sl.mk none 0 0)]) /\ room (x5.gl.length + List.length [Pt.mk x6.kind (0 : Int) x7.n (Sl.mk none 0 0)]) 48 /\ ∀ x13 : Value, inI64 ((x5.i : Int) + (1 : Int)) /\ ∃ x14 : X20, (ph20 x x14 /\ x.l.length - x14.i < x.l.length - x5.i) /\ (x13 = x14.gx /\ x5.gl.length + List.length [Pt.mk x6.kind (0 : Int) x7.n (Sl.mk none 0 0)] = x14.gl.length) /\ (x5.i : Int) + (1 : Int) = (x14.i : Int) /\ x.m = x.m /\ relLe x14.rel (relAdd x5.rel 36 (Value.slice (some (Addr.mk x12 0 none)) 1 1) [Pt.mk x6.kind (0 : Int) x7.n (Sl.mk none 0 0)]) /\ x3 = x3 /\ (x5.w = x14.w /\ ints x5.B = ints x14.B) /\ (x13 = x14.gx /\ x5.gl ++ [Pt.mk x6.kind (0 : Int) x7.n (Sl.mk none 0 0)] = x14.gl) /\ True)))) (((∃ x12 : Unit, bad20 x /\ Rn /\ Rz /\ Rz /\ Rf false /\ x.m = x.m /\ relLe x.rel (relAdd x5.rel 36 x5.gx x5.gl) /\ True) \/ (∃ x12 : Y20, ps20 x x12 /\ (Rn /\ Value.slice none 0 0 = x12.gv /\ x12.gl = []) /\ (0 : Int) = wrong x12.st x12.gl.length /\ ((0 : Int) = (↑((8 : Nat) * x.bs.length - x12.left) : Int)) /\ false = true /\ x.m = x.m /\ relLe x12.rel (relAdd x5.rel 36 x5.gx x5.gl) /\ True))))))))) (x3 = x3 /\ (inI64 ((↑(List.length (ints (bitsOf x.big (nats (ints x.bs))))) : Int) - (↑(List.length (ints x5.B)) : Int))) /\ (Rf (SV.toV (T := TT) (SV.v (Value.int IntKind.i64 (↑(List.length (ints (bitsOf x.big (nats (ints x.bs))))) : Int))))) /\ x3 = x3 /\ Rf (SV.toV (T := TT) (SV.ro 5 x5.w (ints x5.B))) /\ (Rf (SV.toV (T := TT) (SV.v (Value.int IntKind.i64 (↑(List.length (ints x5.B)) : Int))))) /\ (inI64 ((↑(List.length (ints (bitsOf x.big (nats (ints x.bs))))) : Int) - (↑(List.length (ints x5.B)) : Int))) /\ (Rf (SV.toV (T := TT) (SV.v (Value.int IntKind.i64 ((↑(List.length (ints (bitsOf x.big (nats (ints x.bs))))) : Int) - (↑(List.length (ints x5.B)) : Int)))))) /\ (Rf x5.gx /\ Rf x5.gl.length) /\ ((∃ x6 : Unit, bad20 x /\ False /- "match: values of two makes" -/) \/ (∃ x6 : Y20, ps20 x x6 /\ (x5.gx = x6.gv /\ x5.gl = x6.gl) /\ (-1 : Int) = wrong x6.st x6.gl.length /\ ((↑(List.length (ints (bitsOf x.big (nats (ints x.bs))))) : Int) - (↑(List.length (ints x5.B)) : Int) = (↑((8 : Nat) * x.bs.length - x6.left) : Int)) /\ Rf true /\ x.m = x.m /\ relLe x6.rel x5.rel /\ True)))
noncomputable def law_c20 (G : Gl) (x : XR) : VCT := fnx (CC G) (IN G b20 NA) (a20 x) Tryz.f20 (c20.args x) (c20.H x) (outK true 2 (c20.ret x)) (c20.pan x)
theorem eq_c20 (G : Gl) (x : XR) : cond_c20 G x = (law_c20 G x).den := by kernel_rfl
theorem stop20 {x : XR} {y : X20} (hy : ph20 x y) {p : Pt} (hp : x.l[y.i]? = some p) (hpb : pb x.l y.i = true -> p.kind = 4) (hs : stepM x.lens x.extra x.bs y.B p = .stop) {rel : Rel TT} (hr : relLe y.rel rel) :
   ∃ z : Y20, ps20 x z /\ (y.gx = z.gv /\ y.gl = z.gl) /\ (y.i : Int) = wrong z.st z.gl.length /\ (((8 * x.bs.length : Nat) : Int) - (y.B.length : Int) = ((8 * x.bs.length - z.left : Nat) : Int)) /\ relLe z.rel rel := by
 refine ⟨⟨y.gx, y.gl, rel, y.its, true, y.B.length⟩, ph20_stop hy hp hpb hs hr, ⟨rfl, rfl⟩, ?_, ?_, relLe.refl _⟩
 . simp [wrong, hy.len]
 . have := hy.all; dsimp only; omega
theorem next20 {x : XR} {y : X20} (hy : ph20 x y) {p : Pt} (hp : x.l[y.i]? = some p) (hpb : pb x.l y.i = true -> p.kind = 4) {it : RIt} {n : Nat} (hs : stepM x.lens x.extra x.bs y.B p = .got it n)
   {rel R : Rel TT} {q : Pt} (hr : relLe y.rel rel) (hq : itOK rel it q) (hR : relLe rel R) (gx w : Value) {B : List Nat} (hB : B = y.B.drop n) :
   ∃ z : X20, (ph20 x z /\ x.l.length - z.i < x.l.length - y.i) /\ (gx = z.gx /\ y.gl.length + [q].length = z.gl.length) /\ (y.i : Int) + 1 = (z.i : Int) /\ relLe z.rel R /\ (w = z.w /\ ints B = ints z.B) /\ gx = z.gx /\ y.gl ++ [q] = z.gl := by
 subst hB
 refine ⟨_, ⟨ph20_next hy hp hpb hs (gx := gx) (w := w) hr hq, ?_⟩, ⟨rfl, by simp⟩, rfl, hR, ⟨rfl, rfl⟩, rfl, rfl⟩
 have := (List.getElem?_eq_some_iff.1 hp).1
 dsimp only; omega
theorem itOK_nil {rel : Rel TT} {k : Int} {v : Nat} {kk vv n : Int} (h1 : kk = k) (h2 : vv = (v : Int)) : itOK rel ⟨k, v, []⟩ (Pt.mk kk vv n (Sl.mk none 0 0)) := ⟨h1, h2, .inr ⟨rfl, rfl⟩⟩
theorem ok_c20 (G : Gl) (x : XR) (hx : xrOK x) : cond_c20 G x := by
 unfold cond_c20
 obtain ⟨hg, he1, he2, hb, hbl, hli, hn⟩ := hx
 have e3 : ∀ l : List Nat, nats (ints l) = l := nats_ints
 have e4 : ∀ l : List Nat, lensOf (canonL l) = l := lensOf_canon
 simp only [br_d, br_i, br_n, rel_self, true_and, and_true, inRange, inI64, Int.toNat_natCast, ints_len, rgL_len, e3, e4, bitsOf_len]
 refine fun _ => ⟨⟨hb, by omega⟩, fun w0 _ b0 => ⟨⟨0, .slice none 0 0, [], x.rel, [], bitsOf x.big x.bs, w0⟩, ?_, ⟨rfl, rfl⟩, rfl, noteS_le _ _, ⟨rfl, rfl⟩, ⟨rfl, rfl⟩, fun y hy => ⟨fun hi => ⟨by omega, by omega, by omega, fun p hp => ?_⟩, fun hi => ?_⟩⟩⟩
 . exact ⟨Nat.zero_le _, relLe.refl _, trivial, rfl, bitsOf_lt _ _, by dsimp only; rw [bitsOf_len]; exact Nat.le_refl _, by simp [pref, pb]; rcases readM x.lens x.extra x.bs x.l (bitsOf x.big x.bs) false with _ | ⟨a, b, c⟩ <;> simp⟩
 . simp only [hp, Option.some.injEq, forall_eq']
   have hB := hy.bit
   have hBl := hy.all
   have hgl := hy.len
   have hl60 := hli.1
   have hi64 : (-9223372036854775808 <= ((8 * x.bs.length : Nat) : Int) - (y.B.length : Int) /\ ((8 * x.bs.length : Nat) : Int) - (y.B.length : Int) < 9223372036854775808) := by omega
   have hpi := hli.2 p (List.mem_of_getElem? hp)
   have hpn := hn p (List.mem_of_getElem? hp)
   have t8 : Int.tmod (y.B.length : Int) 8 = ((y.B.length % 8 : Nat) : Int) := by rw [Int.tmod_eq_emod_of_nonneg (by omega)]; omega
   have u8 : Int.tdiv (y.B.length : Int) 8 = ((y.B.length / 8 : Nat) : Int) := by rw [Int.tdiv_eq_ediv_of_nonneg (by omega)]; omega
   have e8 : IntKind.u64.wrap ((y.B.length % 8 : Nat) : Int) = ((y.B.length % 8 : Nat) : Int) := by rw [wr64]; omega
   have d8 : IntKind.i64.wrap ((y.B.length / 8 : Nat) : Int) = ((y.B.length / 8 : Nat) : Int) := by rw [wrI (by omega) (by omega)]
   have d9 : IntKind.u64.wrap ((y.B.length / 8 : Nat) : Int) = ((y.B.length / 8 : Nat) : Int) := by rw [wr64]; omega
   have e9 : IntKind.u64.wrap (x.extra.length : Int) = (x.extra.length : Int) := by rw [wr64]; omega
   simp only [t8, u8, e8, d8, d9, e9, Int.toNat_natCast, eq_self, true_and]
   refine ⟨by omega, by omega, by omega, fun bx => ⟨by omega, by omega, by omega, rfl, by omega, by omega, by omega, rfl, ?_, fun _ hpb => ?_⟩⟩
   . refine br_mk (fun h1 => ⟨fun h2 => ⟨by omega, by omega, by omega, by omega, fun q hq => ⟨fun h3 => .inl ⟨(), ?_, hy.rel.trans (relLe.add _ _ _ _)⟩, fun h3 => ⟨(), ?_⟩⟩⟩, fun h2 => ⟨(), ?_⟩⟩) (fun h1 => ⟨(), ?_⟩)
     . refine ph20_behind hy hp ?_ (by simpa using h1)
       obtain ⟨j, hj⟩ : ∃ j, y.i = j + 1 := ⟨y.i - 1, by omega⟩
       rw [hj] at hq ⊢
       rw [show ((j + 1 : Nat) : Int) - 1 = (j : Int) by omega, Int.toNat_natCast] at hq
       rw [pb_next hq, h3]; rfl
     . intro h4
       obtain ⟨j, hj⟩ : ∃ j, y.i = j + 1 := ⟨y.i - 1, by omega⟩
       rw [hj] at hq h4
       rw [show ((j + 1 : Nat) : Int) - 1 = (j : Int) by omega, Int.toNat_natCast] at hq
       rw [pb_next hq] at h4
       exact absurd (by simpa using h4) h3
     . intro h4
       rw [show y.i = 0 by omega] at h4
       cases h4
     . intro h4
       simpa using h1
   . have room1 : ∀ q : Pt, room (y.gl.length + [q].length) 48 := fun q => by simp only [room, List.length_singleton]; omega
     refine ⟨fun hk => fun _ => ⟨⟨hB, by omega, by omega⟩, by omega, fun _ hlt => ⟨hi64, .inr (stop20 hy hp hpb ?_ (relLe.refl _))⟩, fun w1 hle b1 => ⟨rfl, room1 _, fun gx => ⟨by omega, next20 hy hp hpb (it := ⟨0, numL (y.B.take p.n.toNat), []⟩) (n := p.n.toNat) ?_ (relLe.refl _) (itOK_nil hk rfl) (relLe.add _ _ _ _) _ _ rfl⟩⟩⟩, fun hk0 => ⟨fun hk => fun _ => ⟨⟨hB, by omega, hg⟩, fun _ hno => ⟨hi64, .inr (stop20 hy hp hpb ?_ (relLe.refl _))⟩, fun w1 hso b1 => ⟨rfl, room1 _, fun gx => ⟨by omega, next20 hy hp hpb (it := ⟨1, cd x.lens (numL y.B), []⟩) (n := cl x.lens (numL y.B)) ?_ (relLe.refl _) (itOK_nil hk rfl) (relLe.add _ _ _ _) _ _ rfl⟩⟩⟩, fun hk1 => ⟨fun hk => fun _ => ⟨⟨hB, by omega, hg⟩, fun _ hno => ⟨hi64, .inr (stop20 hy hp hpb ?_ (relLe.refl _))⟩, fun w1 hso => ⟨fun hge => .inl ⟨(), ph20_bad hy hp hpb ?_, hy.rel.trans (relLe.add _ _ _ _)⟩, fun hlt => ⟨by omega, by omega, fun r hr => ?_⟩⟩⟩, fun hk2 => ⟨fun hk => ⟨by decide, fun _ => ⟨⟨hB, by omega, by omega⟩, fun _ hlt => by omega, fun w1 hle b1 => ⟨rfl, room1 _, fun gx => ⟨by omega, next20 hy hp hpb (it := ⟨3, numL (y.B.take (y.B.length % 8)), []⟩) (n := y.B.length % 8) ?_ (relLe.refl _) (itOK_nil hk rfl) (relLe.add _ _ _ _) _ _ rfl⟩⟩⟩⟩, fun hk3 => ⟨fun hk => ⟨by decide, ?_⟩, fun hk4 => by omega⟩⟩⟩⟩⟩
     . unfold stepM; rw [if_pos hk, if_pos hlt]
     . unfold stepM; rw [if_pos hk, if_neg (by omega)]
     . unfold stepM; rw [if_neg (by omega), if_pos hk, hno]
     . unfold stepM; rw [if_neg (by omega), if_pos hk, hso]; rfl
     . unfold stepM; rw [if_neg (by omega), if_neg (by omega), if_pos hk, hno]
     . unfold stepM; rw [if_neg (by omega), if_neg (by omega), if_pos hk, hso]; dsimp only; rw [if_pos (by omega)]
     . obtain ⟨n, hne, rfl⟩ := rgL_sum hr
       have hn20 := he2 n (List.mem_of_getElem? hne)
       have hs1 := sum2_le (x.extra.take (cd x.lens (numL y.B))) fun z hz => he2 z (List.mem_of_mem_take hz)
       have hs2 : (x.extra.take (cd x.lens (numL y.B))).length * 2 ^ 20 <= 30 * 2 ^ 20 := Nat.mul_le_mul_right _ (by rw [List.length_take]; omega)
       have hex : x.extra.getD (cd x.lens (numL y.B)) 0 = n := by rw [List.getD_eq_getElem?_getD, hne]; rfl
       have hba : ((rgL 0 x.extra).getD (cd x.lens (numL y.B)) ⟨0, 0⟩).base.toNat = sum2 (x.extra.take (cd x.lens (numL y.B))) := by rw [List.getD_eq_getElem?_getD, hr]; simp
       have hlen : (List.drop (cl x.lens (numL y.B)) y.B).length = y.B.length - cl x.lens (numL y.B) := List.length_drop
       have hdB : ∀ b ∈ List.drop (cl x.lens (numL y.B)) y.B, b < 2 := fun b hb => hB b (List.mem_of_mem_drop hb)
       have hnl := numL_lt (B := List.take n (List.drop (cl x.lens (numL y.B)) y.B)) fun b hb => hdB b (List.mem_of_mem_take hb)
       have hnl2 : (2 : Nat) ^ (List.take n (List.drop (cl x.lens (numL y.B)) y.B)).length <= 2 ^ 20 := Nat.pow_le_pow_right (by decide) (by rw [List.length_take]; omega)
       have hw1 : IntKind.u64.wrap (n : Int) = (n : Int) := by rw [wr64]; omega
       have hw2 : IntKind.u64.wrap ((0 + sum2 (x.extra.take (cd x.lens (numL y.B))) : Nat) : Int) = (sum2 (x.extra.take (cd x.lens (numL y.B))) : Int) := by rw [wr64]; omega
       dsimp only
       simp only [hw1, hw2, Int.toNat_natCast, hlen, true_and]
       refine fun b1 _ => ⟨⟨hdB, by omega, by omega⟩, fun _ h1 => ⟨hi64, .inr (stop20 hy hp hpb ?_ (relLe.refl _))⟩, fun w2 h1 b2 => ⟨rfl, room1 _, fun gx => ⟨by omega, next20 hy hp hpb (it := ⟨2, sum2 (x.extra.take (cd x.lens (numL y.B))) + numL (List.take n (List.drop (cl x.lens (numL y.B)) y.B)), []⟩) (n := cl x.lens (numL y.B) + n) ?_ (relLe.refl _) (itOK_nil hk ?_) (relLe.add _ _ _ _) _ _ ?_⟩⟩⟩
       . unfold stepM; rw [if_neg (by omega), if_neg (by omega), if_pos hk, hso]; dsimp only; rw [if_neg (by omega), hex]; exact if_pos h1
       . unfold stepM; rw [if_neg (by omega), if_neg (by omega), if_pos hk, hso]; dsimp only; rw [if_neg (by omega), hex, if_neg (by unfold cl at h1; omega), hba]; rfl
       . rw [wr64]; omega
       . rw [List.drop_drop]
     . unfold stepM; rw [if_neg (by omega), if_neg (by omega), if_neg (by omega), if_pos hk]
     . have e10 : IntKind.u64.wrap (8 * p.n) = ((8 * p.n.toNat : Nat) : Int) := by rw [wr64]; omega
       have e11 : ((x.bs.length : Int) - ((y.B.length / 8 : Nat) : Int)).toNat = x.bs.length - y.B.length / 8 := by omega
       have e12 : ∀ q : Nat, List.drop q (List.take x.bs.length (ints x.bs)) = ints (x.bs.drop q) := fun q => by rw [<- ints_drop x.bs q, ints_len]
       have e13 : ∀ q : Nat, List.drop 0 (List.take p.n.toNat (ints (x.bs.drop q))) = ints ((x.bs.drop q).take p.n.toNat) := fun q => by simp [ints, List.map_take]
       have e14 : ∀ q : Nat, List.drop q (List.take y.B.length (ints y.B)) = ints (y.B.drop q) := fun q => by rw [<- ints_drop y.B q, ints_len]
       simp only [e10, e11, e12, e13, e14, ints_len, Int.toNat_natCast, List.length_drop, List.length_take]
       refine br_mk (fun h1 => .inl ⟨(), ph20_bad hy hp hpb ?_, hy.rel.trans (relLe.add _ _ _ _)⟩) (fun h1 => ?_)
       . unfold stepM; rw [if_neg (by omega), if_neg (by omega), if_neg (by omega), if_neg (by omega), if_pos hk, if_pos (by simp at h1; omega)]
       . have h1 : y.B.length % 8 = 0 := by simp at h1; omega
         have hstop : ¬ ((y.B.length / 8 : Nat) : Int) >= p.n -> stepM x.lens x.extra x.bs y.B p = .stop := by
           intro h2
           unfold stepM; rw [if_neg (by omega), if_neg (by omega), if_neg (by omega), if_neg (by omega), if_pos hk, if_neg (by omega), if_pos (by omega)]
         refine ⟨by decide, fun h2 => ⟨by decide, by omega, by omega, by omega, fun b1 => ⟨by decide, by omega, by omega, rfl, by omega, ?_, fun sv => ⟨by omega, fun _ A c hsv b2 => ⟨rfl, room1 _, fun gx => ⟨by omega, ?_⟩⟩, fun h3 => absurd h2 h3⟩⟩⟩, fun h2 => ⟨fun h3 => absurd h3 h2, fun _ => ⟨hi64, .inr (stop20 hy hp hpb (hstop h2) (relLe.refl _))⟩⟩⟩
         . simp only [room]; omega
         . subst hsv
           refine next20 hy hp hpb (it := ⟨4, 0, (x.bs.drop (x.bs.length - y.B.length / 8)).take p.n.toNat⟩) (n := 8 * p.n.toNat) ?_ ((noteS_le _ _).trans (relLe.add _ _ _ _)) ?_ (relLe.add _ _ _ _) _ _ rfl
           . unfold stepM; rw [if_neg (by omega), if_neg (by omega), if_neg (by omega), if_neg (by omega), if_pos hk, if_neg (by omega), if_neg (by omega)]
           . refine ⟨hk, rfl, .inl (.inr ⟨rfl, 0, _, Nat.zero_le _, Nat.le_refl _, ?_, ?_⟩)⟩
             . have hl : ([] ++ ints (List.take p.n.toNat (List.drop (x.bs.length - y.B.length / 8) x.bs))).length = 0 + min p.n.toNat (x.bs.length - (x.bs.length - y.B.length / 8)) := by
                 rw [List.nil_append, ints_len, List.length_take, List.length_drop]; omega
               refine Eq.trans ?_ (congrArg (fun n => sliceVal (Value.slice A (0 + min p.n.toNat (x.bs.length - (x.bs.length - y.B.length / 8))) c) 0 n (TT.enc 5).sz) hl.symm)
               exact (sliceVal_all A _ c _).symm
             . exact (List.take_length (l := ints (List.take p.n.toNat (List.drop (x.bs.length - y.B.length / 8) x.bs)))).symm
 . have hBl := hy.all
   refine ⟨by omega, by omega, .inr ⟨⟨y.gx, y.gl, y.rel, y.its, false, y.B.length⟩, ph20_end hy (by have := hy.i; omega), ⟨rfl, rfl⟩, rfl, ?_, relLe.refl _⟩⟩
   dsimp only; omega
theorem b20_ok (G : Gl) : ∀ f pt, b20 f = some pt -> SpecOK (CC G) f pt := by
 intro f pt h
 unfold b20 at h
 split at h
 . cases h; exact loc_ok (s48 G) _
 . cases h; exact loc_ok (s49 G) _
 . cases h; exact loc_ok (s50 G) _
 . cases h
theorem s20 (G : Gl) : SpecOK (CC G) 20 c20.pt := spec G (b20_ok G) (fn := Tryz.f20) rfl NA c20 (fun x => a20 x) fun x h => Met.of (eq_c20 G x) (ok_c20 G x h)
end Pc
/-
 The reference's and the law's small functions do what their contracts say (part 1).
-/
set_option linter.unusedVariables false
set_option maxRecDepth 100000
open Go Go.Vg Go.Proofs
namespace Pc
def cond_c16 (G : Gl) (m : Fz) (rel : Rel TT) (v : Value) (l : List Pt) : Prop :=
 Br (decide ((↑(List.length l) : Int) > (2147483647 : Int))) (∃ x1 : Bool, True /\ false = x1 /\ m = m /\ relLe rel rel /\ True) (∃ x1 : Nat, x1 <= List.length l /\ (0 : Int) = (x1 : Int) /\ m = m /\ relLe rel rel /\ ∀ x2 : Nat, (x2 <= List.length l) -> Br (decide ((x2 : Int) < (↑(List.length l) : Int))) (inRange (x2 : Int) (List.length l) /\ x2 < List.length l /\ ∀ x3 : Pt, (l[x2]? = some x3) -> ∀ x4 : Nat, x4 = x4 /\ x4 = x4 /\ ∀ x5 : Nat, x5 = x5 /\ Br (decide ((x3.s.n : Int) > (2147483647 : Int))) (∃ x6 : Bool, True /\ false = x6 /\ m = m /\ relLe rel rel /\ True) (inI64 ((x2 : Int) + (1 : Int)) /\ ∃ x6 : Nat, (x6 <= List.length l /\ List.length l - x6 < List.length l - x2) /\ (x2 : Int) + (1 : Int) = (x6 : Int) /\ m = m /\ relLe rel rel /\ True)) (∃ x3 : Bool, True /\ true = x3 /\ m = m /\ relLe rel rel /\ True))
noncomputable def law_c16 (G : Gl) (m : Fz) (rel : Rel TT) (v : Value) (l : List Pt) : VCT := fnx (CC G) (IN G no NA) (a16 l) Tryz.f16 (c16.args (m, rel, v, l)) (c16.H (m, rel, v, l)) (outK true 2 (c16.ret (m, rel, v, l))) (c16.pan (m, rel, v, l))
theorem eq_c16 (G : Gl) (m : Fz) (rel : Rel TT) (v : Value) (l : List Pt) : cond_c16 G m rel v l = (law_c16 G m rel v l).den := by kernel_rfl
def cond_c18 (G : Gl) (m : Fz) (rel : Rel TT) (v : Value) (l : List Pt) : Prop :=
 Br (decide ((↑(List.length l) : Int) > (60 : Int))) (∃ x1 : Bool, (x1 = true -> lightB (Prod.snd (Prod.snd (Prod.snd (m, rel, v, l))))) /\ false = x1 /\ m = m /\ relLe rel rel /\ True) (∃ x1 : Nat, (x1 <= List.length l /\ List.length l <= 60 /\ ∀ (j : Nat) (p : Pt), j < x1 -> l[j]? = some p -> (0 : Int) <= Pt.kind p /\ Pt.kind p <= (4 : Int) /\ (Pt.kind p = (0 : Int) -> Pt.n p <= (32 : Int)) /\ Sl.n (Pt.s p) <= 40 /\ (Pt.kind p = (4 : Int) -> Pt.n p <= (40 : Int))) /\ (0 : Int) = (x1 : Int) /\ m = m /\ relLe rel rel /\ ∀ x2 : Nat, (x2 <= List.length l /\ List.length l <= 60 /\ ∀ (j : Nat) (p : Pt), j < x2 -> l[j]? = some p -> (0 : Int) <= Pt.kind p /\ Pt.kind p <= (4 : Int) /\ (Pt.kind p = (0 : Int) -> Pt.n p <= (32 : Int)) /\ Sl.n (Pt.s p) <= 40 /\ (Pt.kind p = (4 : Int) -> Pt.n p <= (40 : Int))) -> Br (decide ((x2 : Int) < (↑(List.length l) : Int))) (inRange (x2 : Int) (List.length l) /\ x2 < List.length l /\ x2 < List.length l /\ ∀ x3 : Pt, (l[x2]? = some x3) -> Br (decide (x3.kind < (0 : Int))) (∃ x4 : Bool, (x4 = true -> lightB (Prod.snd (Prod.snd (Prod.snd (m, rel, v, l))))) /\ false = x4 /\ m = m /\ relLe rel rel /\ True) (inRange (x2 : Int) (List.length l) /\ x2 < List.length l /\ x2 < List.length l /\ ∀ x4 : Pt, (l[x2]? = some x4) -> Br (decide (x4.kind > (4 : Int))) (∃ x5 : Bool, (x5 = true -> lightB (Prod.snd (Prod.snd (Prod.snd (m, rel, v, l))))) /\ false = x5 /\ m = m /\ relLe rel rel /\ True) (inRange (x2 : Int) (List.length l) /\ x2 < List.length l /\ x2 < List.length l /\ ∀ x5 : Pt, (l[x2]? = some x5) -> Br (x5.kind == (0 : Int)) (inRange (x2 : Int) (List.length l) /\ x2 < List.length l /\ x2 < List.length l /\ ∀ x6 : Pt, (l[x2]? = some x6) -> Br (decide (x6.n > (32 : Int))) (∃ x7 : Bool, (x7 = true -> lightB (Prod.snd (Prod.snd (Prod.snd (m, rel, v, l))))) /\ false = x7 /\ m = m /\ relLe rel rel /\ True) (inRange (x2 : Int) (List.length l) /\ x2 < List.length l /\ x2 < List.length l /\ ∀ x7 : Pt, (l[x2]? = some x7) -> Br (decide ((x7.s.n : Int) > (40 : Int))) (∃ x8 : Bool, (x8 = true -> lightB (Prod.snd (Prod.snd (Prod.snd (m, rel, v, l))))) /\ false = x8 /\ m = m /\ relLe rel rel /\ True) (inRange (x2 : Int) (List.length l) /\ x2 < List.length l /\ x2 < List.length l /\ ∀ x8 : Pt, (l[x2]? = some x8) -> Br (x8.kind == (4 : Int)) (inRange (x2 : Int) (List.length l) /\ x2 < List.length l /\ x2 < List.length l /\ ∀ x9 : Pt, (l[x2]? = some x9) -> Br (decide (x9.n > (40 : Int))) (∃ x10 : Bool, (x10 = true -> lightB (Prod.snd (Prod.snd (Prod.snd (m, rel, v, l))))) /\ false = x10 /\ m = m /\ relLe rel rel /\ True) (inI64 ((x2 : Int) + (1 : Int)) /\ ∃ x10 : Nat, ((x10 <= List.length l /\ List.length l <= 60 /\ ∀ (j : Nat) (p : Pt), j < x10 -> l[j]? = some p -> (0 : Int) <= Pt.kind p /\ Pt.kind p <= (4 : Int) /\ (Pt.kind p = (0 : Int) -> Pt.n p <= (32 : Int)) /\ Sl.n (Pt.s p) <= 40 /\ (Pt.kind p = (4 : Int) -> Pt.n p <= (40 : Int))) /\ List.length l - x10 < List.length l - x2) /\ (x2 : Int) + (1 : Int) = (x10 : Int) /\ m = m /\ relLe rel rel /\ True)) (inI64 ((x2 : Int) + (1 : Int)) /\
 ∃ x9 : Nat, ((x9 <= List.length l /\ List.length l <= 60 /\ ∀ (j : Nat) (p : Pt), j < x9 -> l[j]? = some p -> (0 : Int) <= Pt.kind p /\ Pt.kind p <= (4 : Int) /\ (Pt.kind p = (0 : Int) -> Pt.n p <= (32 : Int)) /\ Sl.n (Pt.s p) <= 40 /\ (Pt.kind p = (4 : Int) -> Pt.n p <= (40 : Int))) /\ List.length l - x9 < List.length l - x2) /\ (x2 : Int) + (1 : Int) = (x9 : Int) /\ m = m /\ relLe rel rel /\ True)))) (inRange (x2 : Int) (List.length l) /\ x2 < List.length l /\ x2 < List.length l /\ ∀ x6 : Pt, (l[x2]? = some x6) -> Br (decide ((x6.s.n : Int) > (40 : Int))) (∃ x7 : Bool, (x7 = true -> lightB (Prod.snd (Prod.snd (Prod.snd (m, rel, v, l))))) /\ false = x7 /\ m = m /\ relLe rel rel /\ True) (inRange (x2 : Int) (List.length l) /\ x2 < List.length l /\ x2 < List.length l /\ ∀ x7 : Pt, (l[x2]? = some x7) -> Br (x7.kind == (4 : Int)) (inRange (x2 : Int) (List.length l) /\ x2 < List.length l /\ x2 < List.length l /\ ∀ x8 : Pt, (l[x2]? = some x8) -> Br (decide (x8.n > (40 : Int))) (∃ x9 : Bool, (x9 = true -> lightB (Prod.snd (Prod.snd (Prod.snd (m, rel, v, l))))) /\ false = x9 /\ m = m /\ relLe rel rel /\ True) (inI64 ((x2 : Int) + (1 : Int)) /\ ∃ x9 : Nat, ((x9 <= List.length l /\ List.length l <= 60 /\ ∀ (j : Nat) (p : Pt), j < x9 -> l[j]? = some p -> (0 : Int) <= Pt.kind p /\ Pt.kind p <= (4 : Int) /\ (Pt.kind p = (0 : Int) -> Pt.n p <= (32 : Int)) /\ Sl.n (Pt.s p) <= 40 /\ (Pt.kind p = (4 : Int) -> Pt.n p <= (40 : Int))) /\ List.length l - x9 < List.length l - x2) /\ (x2 : Int) + (1 : Int) = (x9 : Int) /\ m = m /\ relLe rel rel /\ True)) (inI64 ((x2 : Int) + (1 : Int)) /\ ∃ x8 : Nat, ((x8 <= List.length l /\ List.length l <= 60 /\ ∀ (j : Nat) (p : Pt), j < x8 -> l[j]? = some p -> (0 : Int) <= Pt.kind p /\ Pt.kind p <= (4 : Int) /\ (Pt.kind p = (0 : Int) -> Pt.n p <= (32 : Int)) /\ Sl.n (Pt.s p) <= 40 /\ (Pt.kind p = (4 : Int) -> Pt.n p <= (40 : Int))) /\ List.length l - x8 < List.length l - x2) /\ (x2 : Int) + (1 : Int) = (x8 : Int) /\ m = m /\ relLe rel rel /\ True)))))) (∃ x3 : Bool, (x3 = true -> lightB (Prod.snd (Prod.snd (Prod.snd (m, rel, v, l))))) /\ true = x3 /\ m = m /\ relLe rel rel /\ True))
noncomputable def law_c18 (G : Gl) (m : Fz) (rel : Rel TT) (v : Value) (l : List Pt) : VCT := fnx (CC G) (IN G no NA) (a18 l) Tryz.f18 (c18.args (m, rel, v, l)) (c18.H (m, rel, v, l)) (outK true 2 (c18.ret (m, rel, v, l))) (c18.pan (m, rel, v, l))
theorem eq_c18 (G : Gl) (m : Fz) (rel : Rel TT) (v : Value) (l : List Pt) : cond_c18 G m rel v l = (law_c18 G m rel v l).den := by kernel_rfl
def cond_c98 (G : Gl) (m : Fz) (rel : Rel TT) (v n : Nat) : Prop :=
 ∃ x1 : Nat, x1 <= n /\ (0 : Int) = (↑(rev v x1) : Int) /\ (0 : Int) = (x1 : Int) /\ m = m /\ relLe rel rel /\ ∀ x2 : Nat, (x2 <= n) -> Br (decide ((x2 : Int) < (↑n : Int))) ((0 : Int) <= (1 : Int) /\ (0 : Int) <= (x2 : Int) /\ ∃ x3 : Nat, (x3 <= n /\ n - x3 < n - x2) /\ bitI BinOp.or IntKind.u32 (shlI IntKind.u32 (↑(rev v x2) : Int) (1 : Int)) (bitI BinOp.and IntKind.u32 (shrI IntKind.u32 (↑v : Int) (x2 : Int)) (1 : Int)) = (↑(rev v x3) : Int) /\ IntKind.wrap IntKind.u32 ((x2 : Int) + (1 : Int)) = (x3 : Int) /\ m = m /\ relLe rel rel /\ True) (∃ x3 : Unit, True /\ (↑(rev v x2) : Int) = (↑(rev v n) : Int) /\ m = m /\ relLe rel rel /\ True)
noncomputable def law_c98 (G : Gl) (m : Fz) (rel : Rel TT) (v n : Nat) : VCT := fnx (CC G) (IN G no NA) (a98 v n) Tryz.f98 (c98.args (m, rel, v, n)) (c98.H (m, rel, v, n)) (outK true 2 (c98.ret (m, rel, v, n))) (c98.pan (m, rel, v, n))
theorem eq_c98 (G : Gl) (m : Fz) (rel : Rel TT) (v n : Nat) : cond_c98 G m rel v n = (law_c98 G m rel v n).den := by kernel_rfl
def cond_c97 (G : Gl) (m : Fz) (rel : Rel TT) (v : Value) (ns : List Nat) : Prop :=
 ∃ x1 : Nat, x1 <= List.length ns /\ ((0 : Int) = (↑(kraft (List.take x1 ns)) : Int)) /\ (0 : Int) = (x1 : Int) /\ m = m /\ relLe rel rel /\ ∀ x2 : Nat, (x2 <= List.length ns) -> Br (decide ((x2 : Int) < (↑(List.length (linedL ns)) : Int))) (inRange (x2 : Int) (List.length (linedL ns)) /\ x2 < List.length (linedL ns) /\ x2 < List.length (linedL ns) /\ ∀ x3 : Cd, ((linedL ns)[x2]? = some x3) -> Br (x3.len == (0 : Int)) (∃ x4 : Unit, True /\ (0 : Int) = (↑(kraft ns) : Int) /\ m = m /\ relLe rel rel /\ True) (inRange (x2 : Int) (List.length (linedL ns)) /\ x2 < List.length (linedL ns) /\ x2 < List.length (linedL ns) /\ ∀ x4 : Cd, ((linedL ns)[x2]? = some x4) -> Br (decide (x4.len > (20 : Int))) (∃ x5 : Unit, True /\ (0 : Int) = (↑(kraft ns) : Int) /\ m = m /\ relLe rel rel /\ True) (inRange (x2 : Int) (List.length (linedL ns)) /\ x2 < List.length (linedL ns) /\ x2 < List.length (linedL ns) /\ ∀ x5 : Cd, ((linedL ns)[x2]? = some x5) -> (0 : Int) <= IntKind.wrap IntKind.u32 ((20 : Int) - x5.len) /\ inI64 ((x2 : Int) + (1 : Int)) /\ ∃ x6 : Nat, (x6 <= List.length ns /\ List.length ns - x6 < List.length ns - x2) /\ (IntKind.wrap IntKind.u64 ((↑(kraft (List.take x2 ns)) : Int) + shlI IntKind.u64 (1 : Int) (IntKind.wrap IntKind.u32 ((20 : Int) - x5.len))) = (↑(kraft (List.take x6 ns)) : Int)) /\ (x2 : Int) + (1 : Int) = (x6 : Int) /\ m = m /\ relLe rel rel /\ True))) (∃ x3 : Unit, True /\ ((↑(kraft (List.take x2 ns)) : Int) = (↑(kraft ns) : Int)) /\ m = m /\ relLe rel rel /\ True)
noncomputable def law_c97 (G : Gl) (m : Fz) (rel : Rel TT) (v : Value) (ns : List Nat) : VCT := fnx (CC G) (IN G no NA) (a97 ns) Tryz.f97 (c97.args (m, rel, v, ns)) (c97.H (m, rel, v, ns)) (outK true 2 (c97.ret (m, rel, v, ns))) (c97.pan (m, rel, v, ns))
theorem eq_c97 (G : Gl) (m : Fz) (rel : Rel TT) (v : Value) (ns : List Nat) : cond_c97 G m rel v ns = (law_c97 G m rel v ns).den := by kernel_rfl
def cond_c44 (G : Gl) (m : Fz) (rel : Rel TT) (v : Value) (ns : List Nat) : Prop :=
 Br (decide ((↑(List.length (ints ns)) : Int) < (2 : Int))) (((∃ x1 : Unit, ¬okLens ns /\ Rn /\ Rf false /\ m = m /\ relLe rel rel /\ True) \/ (∃ x1 : Value, okLens ns /\ (Rn /\ Value.slice none 0 0 = x1 /\ linedL ns = []) /\ false = true /\ m = m /\ relLe rel rel /\ True))) (Br (decide ((↑(List.length (ints ns)) : Int) > (60 : Int))) (((∃ x1 : Unit, ¬okLens ns /\ Rn /\ Rf false /\ m = m /\ relLe rel rel /\ True) \/ (∃ x1 : Value, okLens ns /\ (Rn /\ Value.slice none 0 0 = x1 /\ linedL ns = []) /\ false = true /\ m = m /\ relLe rel rel /\ True))) (∃ x1 : Nat × Value × Rel TT, (x1.1 <= List.length ns /\ 2 <= List.length ns /\ List.length ns <= 60 /\ ∀ (j p : Nat), j < x1.1 -> ns[j]? = some p -> (1 : Nat) <= p /\ p <= 20) /\ (Value.slice none 0 0 = x1.2.1 /\ 0 = x1.1) /\ (0 : Int) = (↑(x1.1 - 1) : Int) /\ (0 : Int) = (x1.1 : Int) /\ m = m /\ relLe rel rel /\ (Value.slice none 0 0 = x1.2.1 /\ [] = linedL (List.take x1.1 ns)) /\ ∀ x2 : Nat × Value × Rel TT, (x2.1 <= List.length ns /\ 2 <= List.length ns /\ List.length ns <= 60 /\ ∀ (j p : Nat), j < x2.1 -> ns[j]? = some p -> (1 : Nat) <= p /\ p <= 20) -> Br (decide ((x2.1 : Int) < (↑(List.length (ints ns)) : Int))) (inRange (x2.1 : Int) (List.length (ints ns)) /\ x2.1 < List.length (ints ns) /\ ∀ x3 : Int, ((ints ns)[x2.1]? = some x3) -> Br (x3 == (0 : Int)) (((∃ x4 : Unit, ¬okLens ns /\ Rn /\ Rf false /\ m = m /\ relLe rel (relAdd rel 90 x2.2.1 (linedL (List.take x2.1 ns))) /\ True) \/ (∃ x4 : Value, okLens ns /\ (Rn /\ Value.slice none 0 0 = x4 /\ linedL ns = []) /\ false = true /\ m = m /\ relLe rel (relAdd rel 90 x2.2.1 (linedL (List.take x2.1 ns))) /\ True))) (inRange (x2.1 : Int) (List.length (ints ns)) /\ x2.1 < List.length (ints ns) /\ ∀ x4 : Int, ((ints ns)[x2.1]? = some x4) -> Br (decide (x4 > (20 : Int))) (((∃ x5 : Unit, ¬okLens ns /\ Rn /\ Rf false /\ m = m /\ relLe rel (relAdd rel 90 x2.2.1 (linedL (List.take x2.1 ns))) /\ True) \/ (∃ x5 : Value, okLens ns /\ (Rn /\ Value.slice none 0 0 = x5 /\ linedL ns = []) /\ false = true /\ m = m /\ relLe rel (relAdd rel 90 x2.2.1 (linedL (List.take x2.1 ns))) /\ True))) (Br (decide ((x2.1 : Int) > (0 : Int))) (Br (decide ((x2.1 : Int) <= (0 : Int))) (inI64 ((x2.1 : Int) - (1 : Int)) /\ False /- "index: of what?" -/) (inRange (x2.1 : Int) (List.length (ints ns)) /\ x2.1 < List.length (ints ns) /\ ∀ x5 : Int, ((ints ns)[x2.1]? = some x5) -> ∀ x6 : Nat, (Rf x2.2.1 /\ x2.1 = List.length (linedL (List.take x2.1 ns))) /\ (Rf (Value.slice (some (Addr.mk x6 0 none)) 1 1) /\ 1 = List.length [Cd.mk (IntKind.wrap IntKind.u32 ((↑(x2.1 - 1) : Int) + (1 : Int))) (0 : Int) (IntKind.wrap IntKind.u32 x5) (0 : Int)]) /\ room (List.length (linedL (List.take x2.1 ns)) + List.length [Cd.mk (IntKind.wrap IntKind.u32 ((↑(x2.1 - 1) : Int) + (1 : Int))) (0 : Int) (IntKind.wrap IntKind.u32 x5) (0 : Int)]) 16 /\ ∀ x7 : Value, inI64 ((x2.1 : Int) + (1 : Int)) /\ ∃ x8 : Nat × Value × Rel TT, ((x8.1 <= List.length ns /\ 2 <= List.length ns /\ List.length ns <= 60 /\ ∀ (j p : Nat), j < x8.1 -> ns[j]? = some p -> (1 : Nat) <= p /\ p <= 20) /\ List.length ns - x8.1 < List.length ns - x2.1) /\
 (x7 = x8.2.1 /\ x2.1 + List.length [Cd.mk (IntKind.wrap IntKind.u32 ((↑(x2.1 - 1) : Int) + (1 : Int))) (0 : Int) (IntKind.wrap IntKind.u32 x5) (0 : Int)] = x8.1) /\ IntKind.wrap IntKind.u32 ((↑(x2.1 - 1) : Int) + (1 : Int)) = (↑(x8.1 - 1) : Int) /\ (x2.1 : Int) + (1 : Int) = (x8.1 : Int) /\ m = m /\ relLe rel (relAdd rel 90 (Value.slice (some (Addr.mk x6 0 none)) 1 1) [Cd.mk (IntKind.wrap IntKind.u32 ((↑(x2.1 - 1) : Int) + (1 : Int))) (0 : Int) (IntKind.wrap IntKind.u32 x5) (0 : Int)]) /\ (x7 = x8.2.1 /\ linedL (List.take x2.1 ns) ++ [Cd.mk (IntKind.wrap IntKind.u32 ((↑(x2.1 - 1) : Int) + (1 : Int))) (0 : Int) (IntKind.wrap IntKind.u32 x5) (0 : Int)] = linedL (List.take x8.1 ns)) /\ True)) (inRange (x2.1 : Int) (List.length (ints ns)) /\ x2.1 < List.length (ints ns) /\ ∀ x5 : Int, ((ints ns)[x2.1]? = some x5) -> ∀ x6 : Nat, (Rf x2.2.1 /\ x2.1 = List.length (linedL (List.take x2.1 ns))) /\ (Rf (Value.slice (some (Addr.mk x6 0 none)) 1 1) /\ 1 = List.length [Cd.mk (↑(x2.1 - 1) : Int) (0 : Int) (IntKind.wrap IntKind.u32 x5) (0 : Int)]) /\ room (List.length (linedL (List.take x2.1 ns)) + List.length [Cd.mk (↑(x2.1 - 1) : Int) (0 : Int) (IntKind.wrap IntKind.u32 x5) (0 : Int)]) 16 /\ ∀ x7 : Value, inI64 ((x2.1 : Int) + (1 : Int)) /\ ∃ x8 : Nat × Value × Rel TT, ((x8.1 <= List.length ns /\ 2 <= List.length ns /\ List.length ns <= 60 /\ ∀ (j p : Nat), j < x8.1 -> ns[j]? = some p -> (1 : Nat) <= p /\ p <= 20) /\ List.length ns - x8.1 < List.length ns - x2.1) /\ (x7 = x8.2.1 /\ x2.1 + List.length [Cd.mk (↑(x2.1 - 1) : Int) (0 : Int) (IntKind.wrap IntKind.u32 x5) (0 : Int)] = x8.1) /\ (↑(x2.1 - 1) : Int) = (↑(x8.1 - 1) : Int) /\ (x2.1 : Int) + (1 : Int) = (x8.1 : Int) /\ m = m /\ relLe rel (relAdd rel 90 (Value.slice (some (Addr.mk x6 0 none)) 1 1) [Cd.mk (↑(x2.1 - 1) : Int) (0 : Int) (IntKind.wrap IntKind.u32 x5) (0 : Int)]) /\ (x7 = x8.2.1 /\ linedL (List.take x2.1 ns) ++ [Cd.mk (↑(x2.1 - 1) : Int) (0 : Int) (IntKind.wrap IntKind.u32 x5) (0 : Int)] = linedL (List.take x8.1 ns)) /\ True)))) ((Rf x2.2.1 /\ x2.1 = List.length (linedL (List.take x2.1 ns))) /\ ((∃ x3 : Unit, ¬okLens ns /\ False /- "match: values of two makes" -/) \/ (∃ x3 : Value, okLens ns /\ (x2.2.1 = x3 /\ linedL (List.take x2.1 ns) = linedL ns) /\ Rf true /\ m = m /\ relLe rel rel /\ True)))))
noncomputable def law_c44 (G : Gl) (m : Fz) (rel : Rel TT) (v : Value) (ns : List Nat) : VCT := fnx (CC G) (IN G no NA) (a44 ns) Tryz.f44 (c44.args (m, rel, v, ns)) (c44.H (m, rel, v, ns)) (outK true 2 (c44.ret (m, rel, v, ns))) (c44.pan (m, rel, v, ns))
theorem eq_c44 (G : Gl) (m : Fz) (rel : Rel TT) (v : Value) (ns : List Nat) : cond_c44 G m rel v ns = (law_c44 G m rel v ns).den := by kernel_rfl
def cond_c46 (G : Gl) (m : Fz) (rel : Rel TT) (v : Value) (ns : List Nat) : Prop :=
 ∃ x1 : Nat × Value, x1.1 <= List.length ns /\ (Value.slice none 0 0 = x1.2 /\ 0 = x1.1) /\ ((0 : Int) = (↑(sum2 (List.take x1.1 ns)) : Int)) /\ (0 : Int) = (x1.1 : Int) /\ m = m /\ relLe rel rel /\ (Value.slice none 0 0 = x1.2 /\ [] = rgL 0 (List.take x1.1 ns)) /\ ∀ x2 : Nat × Value, (x2.1 <= List.length ns) -> Br (decide ((x2.1 : Int) < (↑(List.length (ints ns)) : Int))) (inRange (x2.1 : Int) (List.length (ints ns)) /\ x2.1 < List.length (ints ns) /\ ∀ x3 : Int, ((ints ns)[x2.1]? = some x3) -> ∀ x4 : Nat, (Rf x2.2 /\ x2.1 = List.length (rgL 0 (List.take x2.1 ns))) /\ (Rf (Value.slice (some (Addr.mk x4 0 none)) 1 1) /\ 1 = List.length [Rg.mk (↑(sum2 (List.take x2.1 ns)) : Int) (IntKind.wrap IntKind.u32 x3)]) /\ (room (List.length (rgL 0 (List.take x2.1 ns)) + List.length [Rg.mk (↑(sum2 (List.take x2.1 ns)) : Int) (IntKind.wrap IntKind.u32 x3)]) 8) /\ ∀ x5 : Value, inRange (x2.1 : Int) (List.length (ints ns)) /\ x2.1 < List.length (ints ns) /\ ∀ x6 : Int, ((ints ns)[x2.1]? = some x6) -> (0 : Int) <= x6 /\ inI64 ((x2.1 : Int) + (1 : Int)) /\ ∃ x7 : Nat × Value, (x7.1 <= List.length ns /\ List.length ns - x7.1 < List.length ns - x2.1) /\ (x5 = x7.2 /\ x2.1 + List.length [Rg.mk (↑(sum2 (List.take x2.1 ns)) : Int) (IntKind.wrap IntKind.u32 x3)] = x7.1) /\ (IntKind.wrap IntKind.u32 ((↑(sum2 (List.take x2.1 ns)) : Int) + shlI IntKind.u32 (1 : Int) x6) = (↑(sum2 (List.take x7.1 ns)) : Int)) /\ (x2.1 : Int) + (1 : Int) = (x7.1 : Int) /\ m = m /\ (relLe rel (relAdd rel 97 (Value.slice (some (Addr.mk x4 0 none)) 1 1) [Rg.mk (↑(sum2 (List.take x2.1 ns)) : Int) (IntKind.wrap IntKind.u32 x3)])) /\ (x5 = x7.2 /\ rgL 0 (List.take x2.1 ns) ++ [Rg.mk (↑(sum2 (List.take x2.1 ns)) : Int) (IntKind.wrap IntKind.u32 x3)] = rgL 0 (List.take x7.1 ns)) /\ True) ((Rf x2.2 /\ x2.1 = List.length (rgL 0 (List.take x2.1 ns))) /\ ∃ x3 : Value, True /\ (x2.2 = x3 /\ rgL 0 (List.take x2.1 ns) = rgL 0 ns) /\ ((↑(sum2 (List.take x2.1 ns)) : Int) = (↑(sum2 ns) : Int)) /\ m = m /\ relLe rel rel /\ True)
noncomputable def law_c46 (G : Gl) (m : Fz) (rel : Rel TT) (v : Value) (ns : List Nat) : VCT := fnx (CC G) (IN G no NA) (a46 ns) Tryz.f46 (c46.args (m, rel, v, ns)) (c46.H (m, rel, v, ns)) (outK true 2 (c46.ret (m, rel, v, ns))) (c46.pan (m, rel, v, ns))
theorem eq_c46 (G : Gl) (m : Fz) (rel : Rel TT) (v : Value) (ns : List Nat) : cond_c46 G m rel v ns = (law_c46 G m rel v ns).den := by kernel_rfl
def cond_c47 (G : Gl) (m : Fz) (rel : Rel TT) (v : Value) (ns : List Nat) : Prop :=
 ∀ x1 : Nat, (Rf (Value.slice (some (Addr.mk x1 0 none)) 0 0) /\ Rf 0) /\ room ((0 : Nat) + List.length (linedL ns)) 16 /\ ∀ x2 : Value, ∃ x3 : Nat, ((1 : Nat) <= x3 /\ x3 <= 21) /\ ((0 : Int) = (↑(nx ns (x3 - 1) (List.length ns)) : Int)) /\ (1 : Int) = (x3 : Int) /\ m = m /\ relLe rel rel /\ (x2 = x2 /\ [] ++ linedL ns = outL ns x3 0) /\ ∀ x4 : Nat, ((1 : Nat) <= x4 /\ x4 <= 21) -> Br (decide ((x4 : Int) <= (20 : Int))) ((0 : Int) <= (1 : Int) /\ ∃ x5 : Nat, x5 <= List.length ns /\ (shlI IntKind.u32 (↑(nx ns (x4 - 1) (List.length ns)) : Int) (1 : Int) = (↑(nx ns x4 x5) : Int)) /\ (0 : Int) = (x5 : Int) /\ m = m /\ relLe rel rel /\ (x2 = x2 /\ outL ns x4 0 = outL ns x4 x5) /\ ∀ x6 : Nat, (x6 <= List.length ns) -> Br (decide ((x6 : Int) < (↑((0 : Nat) + List.length (linedL ns)) : Int))) (x2 = x2 /\ inRange (x6 : Int) (List.length (outL ns x4 x6)) /\ (x2 = x2 /\ x6 < List.length (outL ns x4 x6)) /\ x2 = x2 /\ x6 < List.length (outL ns x4 x6) /\ ∀ x7 : Cd, ((outL ns x4 x6)[x6]? = some x7) -> Br (x7.len == (x4 : Int)) (∀ x8 : Fz, ((nx ns x4 x6) < 4294967296 /\ x4 <= 20) /\ ((↑(nx ns x4 x6) : Int) = (↑((nx ns x4 x6)) : Int)) /\ Rf (x4 : Int) /\ x8 = x8 /\ relLe rel rel /\ ∀ x9 : Unit, True -> x8 = x8 /\ x2 = x2 /\ inRange (x6 : Int) (List.length (outL ns x4 x6)) /\ (x2 = x2 /\ x6 < List.length (outL ns x4 x6)) /\ x2 = x2 /\ x6 < List.length (outL ns x4 x6) /\ ∀ x10 : Cd, ((outL ns x4 x6)[x6]? = some x10) -> inI64 ((x6 : Int) + (1 : Int)) /\ ∃ x11 : Nat, (x11 <= List.length ns /\ List.length ns - x11 < List.length ns - x6) /\ IntKind.wrap IntKind.u32 ((↑(nx ns x4 x6) : Int) + (1 : Int)) = (↑(nx ns x4 x11) : Int) /\ (x6 : Int) + (1 : Int) = (x11 : Int) /\ m = m /\ relLe rel rel /\ (x2 = x2 /\ List.set (outL ns x4 x6) x6 (Cd.mk x10.sym x10.cnt x10.len (↑(rev ((nx ns x4 x6)) x4) : Int)) = outL ns x4 x11) /\ True) (inI64 ((x6 : Int) + (1 : Int)) /\ ∃ x8 : Nat, (x8 <= List.length ns /\ List.length ns - x8 < List.length ns - x6) /\ (↑(nx ns x4 x6) : Int) = (↑(nx ns x4 x8) : Int) /\ (x6 : Int) + (1 : Int) = (x8 : Int) /\ m = m /\ relLe rel rel /\ (x2 = x2 /\ outL ns x4 x6 = outL ns x4 x8) /\ True)) (∃ x7 : Nat, (((1 : Nat) <= x7 /\ x7 <= 21) /\ 21 - x7 < 21 - x4) /\ ((↑(nx ns x4 x6) : Int) = (↑(nx ns (x7 - 1) (List.length ns)) : Int)) /\ IntKind.wrap IntKind.u32 ((x4 : Int) + (1 : Int)) = (x7 : Int) /\ m = m /\ relLe rel rel /\ (x2 = x2 /\ outL ns x4 x6 = outL ns x7 0) /\ True)) ((x2 = x2 /\ 0 + List.length (linedL ns) = List.length (outL ns x4 0)) /\ ∃ x5 : Value, True /\ (x2 = x5 /\ outL ns x4 0 = canonL ns) /\ m = m /\ relLe rel rel /\ True)
noncomputable def law_c47 (G : Gl) (m : Fz) (rel : Rel TT) (v : Value) (ns : List Nat) : VCT := fnx (CC G) (IN G b47 NA) (a47 ns) Tryz.f47 (c47.args (m, rel, v, ns)) (c47.H (m, rel, v, ns)) (outK true 2 (c47.ret (m, rel, v, ns))) (c47.pan (m, rel, v, ns))
theorem eq_c47 (G : Gl) (m : Fz) (rel : Rel TT) (v : Value) (ns : List Nat) : cond_c47 G m rel v ns = (law_c47 G m rel v ns).den := by kernel_rfl
def cond_c17 (G : Gl) (m : Fz) (rel : Rel TT) (v : Value) (ns : List Nat) (v2 : Value) (es : List Nat) : Prop :=
 ∀ x1 : Fz, (∀ (n : Nat), n ∈ Prod.snd (Prod.snd (Prod.snd (x1, Prod.fst (Prod.snd (m, rel, v, ns, v2, es)), Prod.fst (Prod.snd (Prod.snd (m, rel, v, ns, v2, es))), nats (ints (Prod.fst (Prod.snd (Prod.snd (Prod.snd (m, rel, v, ns, v2, es))))))))) -> n < 256) /\ Rz /\ Rn /\ (v = v /\ ints ns = ints (nats (ints ns))) /\ x1 = x1 /\ relLe rel rel /\ (∀ x2 : Unit, (¬okLens (nats (ints ns))) -> x1 = x1 /\ ((∃ x3 : Unit, True /\ Rn /\ Rn /\ Rf false /\ m = m /\ relLe rel rel /\ True) \/ (∃ x3 : Value × Value, (Good ns /\ List.length es <= 30 /\ ∀ (n : Nat), n ∈ Prod.snd (Prod.snd (Prod.snd (Prod.snd (Prod.snd (m, rel, v, ns, v2, es))))) -> n <= 20) /\ (Rn /\ Value.slice none 0 0 = x3.1 /\ canonL ns = []) /\ (Rn /\ Value.slice none 0 0 = x3.2 /\ rgL 0 es = []) /\ false = true /\ m = m /\ relLe rel rel /\ True))) /\ (∀ x2 : Value, (okLens (nats (ints ns))) -> x1 = x1 /\ ∀ x3 : Fz, okLens (lensOf (linedL (nats (ints ns)))) /\ (x2 = x2 /\ linedL (nats (ints ns)) = linedL (lensOf (linedL (nats (ints ns))))) /\ x3 = x3 /\ relLe rel rel /\ ∀ x4 : Unit, True -> x3 = x3 /\ Br (!(↑(kraft (lensOf (linedL (nats (ints ns))))) : Int) == (1048576 : Int)) (((∃ x5 : Unit, True /\ Rn /\ Rn /\ Rf false /\ m = m /\ relLe rel rel /\ True) \/ (∃ x5 : Value × Value, (Good ns /\ List.length es <= 30 /\ ∀ (n : Nat), n ∈ Prod.snd (Prod.snd (Prod.snd (Prod.snd (Prod.snd (m, rel, v, ns, v2, es))))) -> n <= 20) /\ (Rn /\ Value.slice none 0 0 = x5.1 /\ canonL ns = []) /\ (Rn /\ Value.slice none 0 0 = x5.2 /\ rgL 0 es = []) /\ false = true /\ m = m /\ relLe rel rel /\ True))) (Br (decide ((↑(List.length (ints es)) : Int) > (30 : Int))) (((∃ x5 : Unit, True /\ Rn /\ Rn /\ Rf false /\ m = m /\ relLe rel rel /\ True) \/ (∃ x5 : Value × Value, (Good ns /\ List.length es <= 30 /\ ∀ (n : Nat), n ∈ Prod.snd (Prod.snd (Prod.snd (Prod.snd (Prod.snd (m, rel, v, ns, v2, es))))) -> n <= 20) /\ (Rn /\ Value.slice none 0 0 = x5.1 /\ canonL ns = []) /\ (Rn /\ Value.slice none 0 0 = x5.2 /\ rgL 0 es = []) /\ false = true /\ m = m /\ relLe rel rel /\ True))) (∃ x5 : Nat × Value, (x5.1 <= List.length es /\ List.length es <= 30 /\ ∀ (j p : Nat), j < x5.1 -> es[j]? = some p -> p <= 20) /\ (Value.slice none 0 0 = x5.2 /\ 0 = x5.1) /\ (0 : Int) = (x5.1 : Int) /\ m = m /\ relLe rel rel /\ (Value.slice none 0 0 = x5.2 /\ [] = ints (List.take x5.1 es)) /\ ∀ x6 : Nat × Value, (x6.1 <= List.length es /\ List.length es <= 30 /\ ∀ (j p : Nat), j < x6.1 -> es[j]? = some p -> p <= 20) -> Br (decide ((x6.1 : Int) < (↑(List.length (ints es)) : Int))) (inRange (x6.1 : Int) (List.length (ints es)) /\ x6.1 < List.length (ints es) /\ ∀ x7 : Int, ((ints es)[x6.1]? = some x7) -> Br (decide (x7 > (20 : Int))) (((∃ x8 : Unit, True /\ Rn /\ Rn /\ Rf false /\ m = m /\ relLe rel (relAdd rel 34 x6.2 (ints (List.take x6.1 es))) /\ True) \/ (∃ x8 : Value × Value, (Good ns /\ List.length es <= 30 /\ ∀ (n : Nat), n ∈ Prod.snd (Prod.snd (Prod.snd (Prod.snd (Prod.snd (m, rel, v, ns, v2, es))))) -> n <= 20) /\ (Rn /\ Value.slice none 0 0 = x8.1 /\ canonL ns = []) /\ (Rn /\ Value.slice none 0 0 = x8.2 /\ rgL 0 es = []) /\ false = true /\
 m = m /\ relLe rel (relAdd rel 34 x6.2 (ints (List.take x6.1 es))) /\ True))) (inRange (x6.1 : Int) (List.length (ints es)) /\ x6.1 < List.length (ints es) /\ ∀ x8 : Int, ((ints es)[x6.1]? = some x8) -> ∀ x9 : Nat, (Rf x6.2 /\ x6.1 = List.length (ints (List.take x6.1 es))) /\ (Rf (Value.slice (some (Addr.mk x9 0 none)) 1 1) /\ 1 = List.length [IntKind.wrap IntKind.u64 x8]) /\ room (List.length (ints (List.take x6.1 es)) + List.length [IntKind.wrap IntKind.u64 x8]) 8 /\ ∀ x10 : Value, inI64 ((x6.1 : Int) + (1 : Int)) /\ ∃ x11 : Nat × Value, ((x11.1 <= List.length es /\ List.length es <= 30 /\ ∀ (j p : Nat), j < x11.1 -> es[j]? = some p -> p <= 20) /\ List.length es - x11.1 < List.length es - x6.1) /\ (x10 = x11.2 /\ x6.1 + List.length [IntKind.wrap IntKind.u64 x8] = x11.1) /\ (x6.1 : Int) + (1 : Int) = (x11.1 : Int) /\ m = m /\ relLe rel (relAdd rel 34 (Value.slice (some (Addr.mk x9 0 none)) 1 1) [IntKind.wrap IntKind.u64 x8]) /\ (x10 = x11.2 /\ ints (List.take x6.1 es) ++ [IntKind.wrap IntKind.u64 x8] = ints (List.take x11.1 es)) /\ True)) ((Rf x6.2 /\ x6.1 = List.length (ints (List.take x6.1 es))) /\ ∀ x7 : Fz, (List.length (nats (ints (List.take x6.1 es))) <= 30 /\ ∀ (n : Nat), n ∈ Prod.snd (Prod.snd (Prod.snd (x7, Prod.fst (Prod.snd (x3, Prod.fst (Prod.snd (x1, Prod.fst (Prod.snd (m, rel, v, ns, v2, es)), Prod.fst (Prod.snd (Prod.snd (m, rel, v, ns, v2, es))), nats (ints (Prod.fst (Prod.snd (Prod.snd (Prod.snd (m, rel, v, ns, v2, es)))))))), x2, lensOf (linedL (Prod.snd (Prod.snd (Prod.snd (x1, Prod.fst (Prod.snd (m, rel, v, ns, v2, es)), Prod.fst (Prod.snd (Prod.snd (m, rel, v, ns, v2, es))), nats (ints (Prod.fst (Prod.snd (Prod.snd (Prod.snd (m, rel, v, ns, v2, es))))))))))))), x6.2, nats (ints (List.take x6.1 es))))) -> n <= 20) /\ Rz /\ (Rf x6.2 /\ ints (List.take x6.1 es) = ints (nats (ints (List.take x6.1 es)))) /\ x7 = x7 /\ relLe rel rel /\ ∀ x8 : Value, True -> x7 = x7 /\ ∀ x9 : Fz, Good (lensOf (linedL (nats (ints ns)))) /\ (x2 = x2 /\ linedL (nats (ints ns)) = linedL (lensOf (linedL (nats (ints ns))))) /\ x9 = x9 /\ relLe rel rel /\ ∀ x10 : Value, True -> x9 = x9 /\ ((∃ x11 : Unit, True /\ False /- "match: values of two makes" -/) \/ (∃ x11 : Value × Value, (Good ns /\ List.length es <= 30 /\ ∀ (n : Nat), n ∈ Prod.snd (Prod.snd (Prod.snd (Prod.snd (Prod.snd (m, rel, v, ns, v2, es))))) -> n <= 20) /\ (x10 = x11.1 /\ canonL (lensOf (linedL (nats (ints ns)))) = canonL ns) /\ (x8 = x11.2 /\ rgL 0 (nats (ints (List.take x6.1 es))) = rgL 0 es) /\ Rf true /\ m = m /\ relLe rel rel /\ True))))))
noncomputable def law_c17 (G : Gl) (m : Fz) (rel : Rel TT) (v : Value) (ns : List Nat) (v2 : Value) (es : List Nat) : VCT := fnx (CC G) (IN G b17 NA) (a17 es) Tryz.f17 (c17.args (m, rel, v, ns, v2, es)) (c17.H (m, rel, v, ns, v2, es)) (outK true 2 (c17.ret (m, rel, v, ns, v2, es))) (c17.pan (m, rel, v, ns, v2, es))
theorem eq_c17 (G : Gl) (m : Fz) (rel : Rel TT) (v : Value) (ns : List Nat) (v2 : Value) (es : List Nat) : cond_c17 G m rel v ns v2 es = (law_c17 G m rel v ns v2 es).den := by kernel_rfl
theorem ok_c16 (G : Gl) (m : Fz) (rel : Rel TT) (v : Value) (l : List Pt) : cond_c16 G m rel v l := by
 unfold cond_c16
 simp only [br_d, rel_self, true_and, and_true, inRange, inI64, Int.toNat_natCast]
 refine ⟨fun h => ⟨_, rfl⟩, fun h => ⟨0, Nat.zero_le _, rfl, fun i hi => ⟨fun h1 => ⟨by omega, by omega, fun p hp => fun _ _ => ⟨fun _ => ⟨_, rfl⟩, fun _ => ⟨by omega, i + 1, by omega, by omega⟩⟩⟩, fun _ => ⟨_, rfl⟩⟩⟩⟩
theorem ok_c98 (G : Gl) (m : Fz) (rel : Rel TT) (v n : Nat) (hv : v < 4294967296) (hn : n <= 20) : cond_c98 G m rel v n := by
 unfold cond_c98
 simp only [br_d, rel_self, true_and, and_true]
 refine ⟨0, by omega, rfl, rfl, fun i hi => ⟨fun h1 => ⟨by omega, by omega, i + 1, by omega, ?_, ?_⟩, fun h1 => ⟨(), ?_⟩⟩⟩
 . have h2 := rev_lt v i
   have h3 : (2 : Nat) ^ i <= 2 ^ 19 := Nat.pow_le_pow_right (by decide) (by omega)
   have h4 : min i 32 = i := by omega
   have h5 : min 1 32 = 1 := rfl
   have h6 := bt_lt v i
   have h7 : v / 2 ^ i < 4294967296 := Nat.lt_of_le_of_lt (Nat.div_le_self _ _) hv
   rw [shrN, show (1 : Int) = ((1 : Nat) : Int) from rfl, shlN rfl, andN rfl (by simpa [IntKind.bits, h4] using h7) (by decide), orN rfl (Nat.mod_lt _ (by decide)) ?_]
   . simp only [IntKind.bits, h4, h5, Nat.and_one_is_mod, rev, Nat.pow_one]
     rw [Nat.mod_eq_of_lt (by omega), Nat.mul_comm]
     have : 2 * rev v i ||| bt v i = 2 * rev v i + bt v i := by
       have := Nat.two_pow_add_eq_or_of_lt (i := 1) (show bt v i < 2 ^ 1 from h6) (rev v i)
       rw [Nat.pow_one] at this
       exact this.symm
     exact congrArg _ this
   . exact Nat.lt_of_le_of_lt Nat.and_le_right (by decide)
 . rw [show ((i : Int) + 1) = ((i + 1 : Nat) : Int) from rfl, wrId rfl (by simp only [IntKind.bits]; omega)]
 . have : i = n := by omega
   subst this; rfl
theorem ok_c97 (G : Gl) (m : Fz) (rel : Rel TT) (v : Value) (ns : List Nat) (ho : okLens ns) : cond_c97 G m rel v ns := by
 unfold cond_c97
 simp only [br_d, br_i, rel_self, true_and, and_true, Int.toNat_natCast, linedL_len, inRange, inI64]
 obtain ⟨h2, h60, hp⟩ := ho
 refine ⟨0, by omega, rfl, rfl, fun i hi => ⟨fun h1 => ⟨by omega, by omega, by omega, fun c hc => ?_⟩, fun h1 => ⟨(), ?_⟩⟩⟩
 . obtain ⟨l, hl, rfl⟩ := linedL_get hc
   have hl1 := hp l (List.mem_of_getElem? hl)
   dsimp only
   refine ⟨fun h => by omega, fun _ => ⟨by omega, by omega, by omega, fun c2 hc2 => ?_⟩⟩
   obtain rfl := Option.some.inj (hc.symm.trans hc2)
   dsimp only
   refine ⟨fun h => by omega, fun _ => ⟨by omega, by omega, by omega, fun c3 hc3 => ?_⟩⟩
   obtain rfl := Option.some.inj (hc.symm.trans hc3)
   dsimp only
   have e1 : IntKind.u32.wrap (20 - (l : Int)) = ((20 - l : Nat) : Int) := by rw [wr32]; omega
   rw [e1]
   refine ⟨by omega, by omega, i + 1, by omega, ?_, rfl⟩
   rw [show (1 : Int) = ((1 : Nat) : Int) from rfl, shlN rfl]
   have hk := kraft_take_succ hl
   have hb := kraft_le (ns.take (i + 1))
   have h3 : (2 : Nat) ^ (20 - l) <= 2 ^ 19 := Nat.pow_le_pow_right (by decide) (by omega)
   have h4 : min (20 - l) IntKind.u64.bits = 20 - l := by simp only [IntKind.bits]; omega
   rw [h4, Nat.one_mul, Nat.mod_eq_of_lt (by simp only [IntKind.bits]; omega), <- Int.natCast_add, wrId rfl, hk]
   rw [<- hk]
   simp only [List.length_take] at hb
   have : min (i + 1) ns.length * 2 ^ 20 <= 60 * 2 ^ 20 := Nat.mul_le_mul_right _ (by omega)
   simp only [IntKind.bits]
   omega
 . have : i = ns.length := by omega
   subst this; rw [List.take_length]
theorem ok_c18 (G : Gl) (m : Fz) (rel : Rel TT) (v : Value) (l : List Pt) : cond_c18 G m rel v l := by
 unfold cond_c18
 simp only [br_d, br_i, rel_self, true_and, and_true, inRange, inI64, Int.toNat_natCast]
 refine ⟨fun h => ⟨false, by simp, rfl⟩, fun h => ⟨0, ⟨by omega, by omega, fun j p hj => by omega⟩, rfl, fun i hi => ⟨fun h1 => ⟨by omega, by omega, by omega, fun p hp => ?_⟩, fun h1 => ⟨true, fun _ => ⟨by omega, fun p hp => ?_⟩, rfl⟩⟩⟩⟩
 . have fin : (0 <= p.kind /\ p.kind <= 4 /\ (p.kind = 0 -> p.n <= 32) /\ p.s.n <= 40 /\ (p.kind = 4 -> p.n <= 40)) -> ∃ x10 : (Nat), ((x10 <= List.length l /\ List.length l <= (60 : Nat) /\ ∀ (j : Nat) (p : Pt), j < x10 -> l[j]? = some p -> (0 : Int) <= Pt.kind p /\ Pt.kind p <= (4 : Int) /\ (Pt.kind p = (0 : Int) -> Pt.n p <= (32 : Int)) /\ Sl.n (Pt.s p) <= (40 : Nat) /\ (Pt.kind p = (4 : Int) -> Pt.n p <= (40 : Int))) /\ List.length l - x10 < List.length l - i) /\ ((i : Int) + (1 : Int) = (↑x10 : Int)) := by
     intro hg
     refine ⟨i + 1, ⟨⟨by omega, by omega, fun j q hj hq => ?_⟩, by omega⟩, rfl⟩
     by_cases hji : j = i
     . subst hji
       obtain rfl := Option.some.inj (hp.symm.trans hq)
       exact hg
     . exact hi.2.2 j q (by omega) hq
   have no : ∃ x4 : (Bool), (x4 = true -> lightB l) /\ (false = x4) := ⟨false, by simp, rfl⟩
   simp only [hp, Option.some.injEq, forall_eq']
   refine ⟨fun _ => no, fun k1 => ⟨by omega, by omega, by omega, fun _ => no, fun k2 => ⟨by omega, by omega, by omega, fun k3 => ⟨by omega, by omega, by omega, fun _ => no, fun k4 => ⟨by omega, by omega, by omega, fun _ => no, fun k5 => ⟨by omega, by omega, by omega, fun k6 => by omega, fun k6 => ⟨by omega, fin ?_⟩⟩⟩⟩, fun k3 => ⟨by omega, by omega, by omega, fun _ => no, fun k5 => ⟨by omega, by omega, by omega, fun k6 => ⟨by omega, by omega, by omega, fun _ => no, fun k7 => ⟨by omega, fin ?_⟩⟩, fun k6 => ⟨by omega, fin ?_⟩⟩⟩⟩⟩⟩ <;> omega
 . obtain ⟨j, hj, he⟩ := List.getElem_of_mem hp
   exact hi.2.2 j p (by omega) (by rw [List.getElem?_eq_getElem hj, he])
theorem ok_c44 (G : Gl) (m : Fz) (rel : Rel TT) (v : Value) (ns : List Nat) (hb : ∀ n ∈ ns, n < 256) : cond_c44 G m rel v ns := by
 unfold cond_c44
 simp only [br_d, br_i, rel_self, rel_add, true_and, and_true, inRange, inI64, Int.toNat_natCast, ints_len, linedL_len]
 refine ⟨fun h => .inl ⟨(), fun ho => ?_⟩, fun h => ⟨fun h1 => .inl ⟨(), fun ho => ?_⟩, fun h1 => ⟨(0, .slice none 0 0, rel), ⟨Nat.zero_le _, by omega, by omega, fun j p hj => absurd hj (Nat.not_lt_zero _)⟩, ⟨rfl, rfl⟩, rfl, rfl, ⟨rfl, rfl⟩, fun x hx => ⟨fun h2 => ⟨by omega, by omega, fun k hk => ?_⟩, fun h2 => ⟨?_, .inr ⟨x.2.1, ?_, rfl, ?_⟩⟩⟩⟩⟩⟩
 . have := ho.1; omega
 . have := ho.2.1; omega
 . obtain ⟨n, hn, rfl⟩ := ints_get hk
   have hn256 := hb n (List.mem_of_getElem? hn)
   have hw : IntKind.u32.wrap (n : Int) = (n : Int) := wrId rfl (by simp only [IntKind.bits]; omega)
   have bad : ¬ (1 <= n /\ n <= 20) -> ¬ okLens ns := fun h ho => h (ho.2.2 n (List.mem_of_getElem? hn))
   simp only [hk, Option.some.injEq, forall_eq', hw]
   have next : (1 <= n /\ n <= 20) -> ∀ (j p : Nat), j < x.1 + 1 -> ns[j]? = some p -> 1 <= p /\ p <= 20 := by
     intro hg j p hj hp
     by_cases hji : j = x.1
     . rw [hji] at hp
       obtain rfl := Option.some.inj (hn.symm.trans hp)
       exact hg
     . exact hx.2.2.2 j p (by omega) hp
   refine ⟨fun h => .inl ⟨(), bad (by omega), relLe.add _ _ _ _⟩, fun h3 => ⟨by omega, by omega, fun h4 => .inl ⟨(), bad (by omega), relLe.add _ _ _ _⟩, fun h4 => ⟨fun h5 => ⟨fun h6 => by omega, fun h6 => ⟨by omega, by omega, fun b => ⟨?_, rfl, ?_, fun y => ⟨by omega, (x.1 + 1, y, rel), ⟨⟨by dsimp only; omega, by omega, by omega, next (by omega)⟩, by dsimp only; omega⟩, ⟨rfl, rfl⟩, ?_, rfl, rfl, ?_⟩⟩⟩⟩, fun h5 => ⟨by omega, by omega, fun b => ⟨?_, rfl, ?_, fun y => ⟨by omega, (x.1 + 1, y, rel), ⟨⟨by dsimp only; omega, by omega, by omega, next (by omega)⟩, by dsimp only; omega⟩, ⟨rfl, rfl⟩, ?_, rfl, rfl, ?_⟩⟩⟩⟩⟩⟩
   . simp only [List.length_take]; omega
   . simp only [List.length_take, List.length_singleton, room]; omega
   . rw [wr32]; dsimp only; omega
   . rw [linedL_next hn, wr32]
     have : ((x.1 - 1 : Nat) : Int) + 1 = (x.1 : Int) := by omega
     rw [this, Int.emod_eq_of_lt (by omega) (by omega)]
   . simp only [List.length_take]; omega
   . simp only [List.length_take, List.length_singleton, room]; omega
   . dsimp only; omega
   . rw [linedL_next hn]
     have : ((x.1 - 1 : Nat) : Int) = (x.1 : Int) := by omega
     rw [this]
 . simp only [List.length_take]; omega
 . refine ⟨hx.2.1, hx.2.2.1, fun l hl => ?_⟩
   obtain ⟨j, hj, he⟩ := List.getElem_of_mem hl
   exact hx.2.2.2 j l (by omega) (by rw [List.getElem?_eq_getElem hj, he])
 . rw [show x.1 = ns.length by omega, List.take_length]
theorem ok_c46 (G : Gl) (m : Fz) (rel : Rel TT) (v : Value) (ns : List Nat) (hl : ns.length <= 30) (hb : ∀ n ∈ ns, n <= 20) : cond_c46 G m rel v ns := by
 unfold cond_c46
 simp only [br_d, rel_self, rel_add, true_and, and_true, inRange, inI64, Int.toNat_natCast, ints_len, rgL_len]
 refine ⟨(0, .slice none 0 0), Nat.zero_le _, ⟨rfl, rfl⟩, rfl, rfl, ⟨rfl, rfl⟩, fun x hx => ⟨fun h2 => ⟨by omega, by omega, fun k hk => ?_⟩, fun h2 => ⟨?_, x.2, ?_, ?_⟩⟩⟩
 . obtain ⟨n, hn, rfl⟩ := ints_get hk
   have hn20 := hb n (List.mem_of_getElem? hn)
   have hw : IntKind.u32.wrap (n : Int) = (n : Int) := wrId rfl (by simp only [IntKind.bits]; omega)
   simp only [hk, Option.some.injEq, forall_eq', hw]
   refine fun b => ⟨?_, rfl, ?_, fun y => ⟨by omega, by omega, by omega, by omega, (x.1 + 1, y), ⟨by dsimp only; omega, by dsimp only; omega⟩, ⟨rfl, rfl⟩, ?_, rfl, rfl, ?_⟩⟩
   . simp only [List.length_take]; omega
   . simp only [List.length_take, List.length_singleton, room]; omega
   . have h1 := sum2_le (ns.take (x.1 + 1)) fun y hy => hb y (List.mem_of_mem_take hy)
     have h2 := sum2_next hn
     rw [show (1 : Int) = ((1 : Nat) : Int) from rfl, shlN rfl]
     have h3 : (2 : Nat) ^ n <= 2 ^ 20 := Nat.pow_le_pow_right (by decide) (by omega)
     have h4 : min n IntKind.u32.bits = n := by simp only [IntKind.bits]; omega
     simp only [List.length_take] at h1
     have h5 : min (x.1 + 1) ns.length * 2 ^ 20 <= 30 * 2 ^ 20 := Nat.mul_le_mul_right _ (by omega)
     rw [h4, Nat.one_mul, Nat.mod_eq_of_lt (by simp only [IntKind.bits]; omega), <- Int.natCast_add, wrId rfl, h2]
     simp only [IntKind.bits]; omega
   . rw [rgL_next hn]
 . simp only [List.length_take]; omega
 . rw [show x.1 = ns.length by omega, List.take_length]
   exact ⟨rfl, rfl⟩
 . rw [show x.1 = ns.length by omega, List.take_length]
theorem ok_c47 (G : Gl) (m : Fz) (rel : Rel TT) (v : Value) (ns : List Nat) (hg : Good ns) : cond_c47 G m rel v ns := by
 unfold cond_c47
 simp only [br_d, br_i, rel_self, true_and, and_true, inRange, inI64, Int.toNat_natCast, linedL_len, outL_len]
 have h60 := hg.sixty
 have hpos := fun (l : Nat) (hl : l ∈ ns) => hg.pos l hl
 have hx : ∀ n i, n <= 20 -> nx ns n i <= 2 ^ 20 := fun n i hn => Nat.le_trans (nx_bound hg hn) (Nat.pow_le_pow_right (by decide) hn)
 refine fun b => ⟨?_, fun y => ⟨1, by omega, ?_, rfl, ?_, fun n hn => ⟨fun h1 => ⟨by omega, 0, by omega, ?_, rfl, rfl, fun i hi => ⟨fun h2 => ⟨by omega, by omega, by omega, fun c hc => ?_⟩, fun h2 => ⟨n + 1, by omega, ?_, ?_, ?_⟩⟩⟩, fun h1 => ⟨?_, y, rfl, ?_⟩⟩⟩⟩
 . simp only [room]; omega
 . rw [nx_zero hg.pos]; rfl
 . exact (outL_one hg.pos).symm
 . have h3 := hx (n - 1) ns.length (by omega)
   have h4 := nx_next ns (n - 1)
   rw [show n - 1 + 1 = n by omega] at h4
   rw [show (1 : Int) = ((1 : Nat) : Int) from rfl, shlN rfl, h4]
   simp only [IntKind.bits]
   rw [show min 1 32 = 1 from rfl, Nat.pow_one, Nat.mod_eq_of_lt (by omega), Nat.mul_comm]
 . obtain ⟨k, hk, rfl⟩ := outL_get hc
   simp only [hc, Option.some.injEq, forall_eq']
   have h20 := hx n i (by omega)
   have hnx := nx_succ ns n i (by omega)
   have hkd : ns.getD i 0 = k := by rw [List.getD_eq_getElem?_getD, hk]; rfl
   rw [hkd] at hnx
   refine ⟨fun h => fun _ => ⟨⟨by omega, by omega⟩, fun _ _ => ⟨by omega, by omega, by omega, by omega, i + 1, by omega, ?_, rfl, ?_⟩⟩, fun h => ⟨by omega, i + 1, by omega, ?_, rfl, ?_⟩⟩
   . rw [hnx, if_pos (by omega), wr32]; omega
   . have : k = n := by omega
     subst this
     exact outL_set hk
   . rw [hnx, if_neg (by omega)]; rfl
   . exact (outL_skip hk (by omega)).symm
 . rw [Nat.add_sub_cancel, nx_wide ns n i (by omega)]
 . rw [wr32]; omega
 . exact outL_wide (by omega)
 . omega
 . exact outL_end (by omega) hg.pos
theorem ok_c17 (G : Gl) (m : Fz) (rel : Rel TT) (v : Value) (ns : List Nat) (v2 : Value) (es : List Nat) (hb : ∀ n ∈ ns, n < 256) (he : ∀ n ∈ es, n < 256) : cond_c17 G m rel v ns v2 es := by
 unfold cond_c17
 have e1 : nats (ints ns) = ns := nats_ints ns
 have e2 : lensOf (linedL ns) = ns := lensOf_lined ns
 have e3 : ∀ l : List Nat, nats (ints l) = l := nats_ints
 have e4 : lensOf (linedL ns) = ns := lensOf_lined ns
 simp only [br_d, br_i, br_n, rel_self, rel_add, true_and, and_true, inRange, inI64, Int.toNat_natCast, ints_len, e1, e2, e3]
 refine fun _ => ⟨hb, fun _ hno => .inl ⟨(), trivial⟩, fun y ho _ => ⟨ho, fun _ _ => ⟨fun hk => ⟨fun h1 => .inl ⟨(), trivial⟩, fun h1 => ?_⟩, fun hk => .inl ⟨(), trivial⟩⟩⟩⟩
 have hg : Good ns := ⟨ho.1, ho.2.1, ho.2.2, by have : kraft ns = 1048576 := by omega
                                                rw [this]⟩
 refine ⟨(0, .slice none 0 0), ⟨Nat.zero_le _, by omega, fun j p hj => absurd hj (Nat.not_lt_zero _)⟩, ⟨rfl, rfl⟩, rfl, ⟨rfl, rfl⟩, fun x hx => ⟨fun h2 => ⟨by omega, by omega, fun k hk => ?_⟩, fun h2 => ?_⟩⟩
 . obtain ⟨n, hn, rfl⟩ := ints_get hk
   have hn256 := he n (List.mem_of_getElem? hn)
   have hw : IntKind.u64.wrap (n : Int) = (n : Int) := wrId rfl (by simp only [IntKind.bits]; omega)
   simp only [hk, Option.some.injEq, forall_eq', hw]
   refine ⟨fun h3 => .inl ⟨(), relLe.add _ _ _ _⟩, fun h3 => ⟨by omega, by omega, fun b => ⟨?_, rfl, ?_, fun z => ⟨by omega, (x.1 + 1, z), ⟨⟨by dsimp only; omega, by omega, ?_⟩, by dsimp only; omega⟩, ⟨rfl, rfl⟩, rfl, rfl, ?_⟩⟩⟩⟩
   . simp only [List.length_take]; omega
   . simp only [List.length_take, List.length_singleton, room]; omega
   . intro j p hj hp
     by_cases hji : j = x.1
     . rw [hji] at hp
       obtain rfl := Option.some.inj (hn.symm.trans hp)
       omega
     . exact hx.2.2 j p (by dsimp only at hj; omega) hp
   . dsimp only
     rw [take_succ hn]; simp [ints]
 . have hx1 : x.1 = es.length := by omega
   have he20 : ∀ n ∈ es, n <= 20 := fun n hn => by
     obtain ⟨j, hj, rfl⟩ := List.getElem_of_mem hn
     exact hx.2.2 j _ (by omega) (List.getElem?_eq_getElem hj)
   rw [hx1, List.take_length]
   exact ⟨rfl, fun _ => ⟨⟨hx.2.1, he20⟩, fun w _ _ => ⟨hg, fun z _ => .inr ⟨(z, w), ⟨hg, hx.2.1, he20⟩, rfl, rfl, rfl⟩⟩⟩⟩
theorem s16 (G : Gl) : SpecOK (CC G) 16 c16.pt := spec G (no_ok G) (fn := Tryz.f16) rfl NA c16 (fun x => a16 x.2.2.2) fun ⟨m, rel, v, l⟩ _ => Met.of (eq_c16 G m rel v l) (ok_c16 G m rel v l)
theorem s18 (G : Gl) : SpecOK (CC G) 18 c18.pt := spec G (no_ok G) (fn := Tryz.f18) rfl NA c18 (fun x => a18 x.2.2.2) fun ⟨m, rel, v, l⟩ _ => Met.of (eq_c18 G m rel v l) (ok_c18 G m rel v l)
theorem s98 (G : Gl) : SpecOK (CC G) 98 c98.pt := spec G (no_ok G) (fn := Tryz.f98) rfl NA c98 (fun x => a98 x.2.2.1 x.2.2.2) fun ⟨m, rel, v, n⟩ h => Met.of (eq_c98 G m rel v n) (ok_c98 G m rel v n h.1 h.2)
theorem s97 (G : Gl) : SpecOK (CC G) 97 c97.pt := spec G (no_ok G) (fn := Tryz.f97) rfl NA c97 (fun x => a97 x.2.2.2) fun ⟨m, rel, v, ns⟩ h => Met.of (eq_c97 G m rel v ns) (ok_c97 G m rel v ns h)
theorem s44 (G : Gl) : SpecOK (CC G) 44 c44.pt := spec G (no_ok G) (fn := Tryz.f44) rfl NA c44 (fun x => a44 x.2.2.2) fun ⟨m, rel, v, ns⟩ h => Met.of (eq_c44 G m rel v ns) (ok_c44 G m rel v ns h)
theorem s46 (G : Gl) : SpecOK (CC G) 46 c46.pt := spec G (no_ok G) (fn := Tryz.f46) rfl NA c46 (fun x => a46 x.2.2.2) fun ⟨m, rel, v, ns⟩ h => Met.of (eq_c46 G m rel v ns) (ok_c46 G m rel v ns h.1 h.2)
theorem b47_ok (G : Gl) : ∀ f pt, b47 f = some pt -> SpecOK (CC G) f pt := by
 intro f pt h
 unfold b47 at h
 split at h
 . cases h; exact loc_ok (s98 G) _
 . cases h
theorem s47 (G : Gl) : SpecOK (CC G) 47 c47.pt := spec G (b47_ok G) (fn := Tryz.f47) rfl NA c47 (fun x => a47 x.2.2.2) fun ⟨m, rel, v, ns⟩ h => Met.of (eq_c47 G m rel v ns) (ok_c47 G m rel v ns h)
theorem b17_ok (G : Gl) : ∀ f pt, b17 f = some pt -> SpecOK (CC G) f pt := by
 intro f pt h
 unfold b17 at h
 split at h
 . cases h; exact loc_ok (s44 G) _
 . cases h; exact loc_ok (s97 G) _
 . cases h; exact giv_ok (loc_ok (s46 G) _) _
 . cases h; exact loc_ok (s47 G) _
 . cases h
theorem s17 (G : Gl) : SpecOK (CC G) 17 c17.pt := spec G (b17_ok G) (fn := Tryz.f17) rfl NA c17 (fun x => a17 x.2.2.2.2.2) fun ⟨m, rel, v, ns, v2, es⟩ h => Met.of (eq_c17 G m rel v ns v2 es) (ok_c17 G m rel v ns v2 es h.1 h.2)
end Pc
/-
 What the laws of reading call.
-/
set_option linter.unusedVariables false
set_option maxRecDepth 100000
open Go Go.Vg Go.Proofs
namespace Pc
theorem b30_ok (G : Gl) : ∀ f pt, b30 f = some pt -> SpecOK (CC G) f pt := by
 intro f pt h
 unfold b30 at h
 split at h
 . cases h; exact loc_ok (s16 G) _
 . cases h; exact loc_ok (s17 G) _
 . cases h; exact loc_ok (s18 G) _
 . cases h; exact loc_ok (s19 G) _
 . cases h; exact loc_ok (s20 G) _
 . cases h
end Pc
/-
 The contract of FnWrittenBack; what was written is read back.
-/
set_option linter.unusedVariables false
set_option maxRecDepth 100000
open Go Go.Vg Go.Proofs
namespace Pc
theorem back {lens extra bs : List Nat} {big : Bool} (hg : Good lens) (hbs : ∀ b ∈ bs, b < 256) : ∀ (r : List (Pt × List Nat)) (B0 B Z : List Nat) (pb : Bool) (its : List RIt) (st : Bool) (left : Nat),
   wrM lens extra big r B0 = some B -> bitsOf big bs = B ++ Z -> (∀ q ∈ r, ∀ b ∈ q.2, b < 256) -> readM lens extra bs (r.map askOf) ((bitsOf big bs).drop B0.length) pb = some (its, st, left) ->
   st = false /\ its.length = r.length /\ ∀ (i : Nat) (it : RIt) (q : Pt × List Nat), its[i]? = some it -> r[i]? = some q -> agrees it q
 | [], B0, B, Z, pb, its, st, left, hw, hb, hs, hr => by
   simp only [List.map_nil, readM, Option.some.injEq, Prod.mk.injEq] at hr
   obtain ⟨rfl, rfl, _⟩ := hr
   exact ⟨rfl, rfl, fun i it q h _ => by simp at h⟩
 | (p, s) :: r, B0, B, Z, pb, its, st, left, hw, hb, hs, hr => by
   simp only [wrM] at hw
   split at hw
   . cases hw
   . rename_i C hC
     obtain ⟨D, hD⟩ := wrM_pre hw
     have hT : (bitsOf big bs).drop B0.length = C ++ (D ++ Z) := by
       rw [hb, hD, List.append_assoc, List.append_assoc, List.drop_left]
     have hlen := congrArg List.length hb
     rw [bitsOf_len, hD, List.length_append, List.length_append, List.length_append] at hlen
     obtain ⟨it, h1, h2⟩ := step_back hg hbs (hs _ List.mem_cons_self) hC (by rw [List.length_append, List.length_append]; omega) hT (by rw [List.length_append, List.length_append]; omega)
     rw [hT, List.map_cons] at hr
     unfold readM at hr
     split at hr
     . cases hr
     . rw [h1] at hr
       dsimp only at hr
       have hnext : (C ++ (D ++ Z)).drop C.length = (bitsOf big bs).drop (B0 ++ C).length := by
         rw [<- hT, List.drop_drop, List.length_append]
       rw [hnext] at hr
       split at hr
       . cases hr
       . rename_i l st' q' hq
         simp only [Option.some.injEq, Prod.mk.injEq] at hr
         obtain ⟨rfl, rfl, rfl⟩ := hr
         obtain ⟨g1, g2, g3⟩ := back hg hbs r (B0 ++ C) B Z _ l st' q' hw hb (fun q hq => hs q (List.mem_cons_of_mem _ hq)) hq
         refine ⟨g1, by simp [g2], fun i it' q h3 h4 => ?_⟩
         cases i with
         | zero =>
           simp only [List.getElem?_cons_zero, Option.some.injEq] at h3 h4
           subst h3 h4
           exact h2
         | succ i =>
           simp only [List.getElem?_cons_succ] at h3 h4
           exact g3 i it' q h3 h4
def ask1 (p : Pt) : Pt := if p.kind = 4 then { p with n := (p.s.n : Int) } else p
def askL (l : List Pt) (i : Nat) : List Pt := (l.take i).map ask1 ++ l.drop i
theorem askL_len (l : List Pt) (i : Nat) : (askL l i).length = l.length := by
 unfold askL
 rw [List.length_append, List.length_map, List.length_take, List.length_drop]; omega
theorem askL_zero (l : List Pt) : askL l 0 = l := rfl
theorem askL_all (l : List Pt) : askL l l.length = l.map ask1 := by
 unfold askL
 rw [List.take_length, List.drop_length, List.append_nil]
theorem askL_get {l : List Pt} {i : Nat} (h : i < l.length) : (askL l i)[i]? = l[i]? := by
 unfold askL
 rw [List.getElem?_append_right (by rw [List.length_map, List.length_take]; omega), List.length_map, List.length_take, List.getElem?_drop]
 congr 1; omega
theorem askL_set {l : List Pt} {i : Nat} {p : Pt} (h : l[i]? = some p) : (askL l i).set i (ask1 p) = askL l (i + 1) := by
 have hi := (List.getElem?_eq_some_iff.1 h).1
 apply List.ext_getElem?
 intro j
 rw [List.getElem?_set, askL_len]
 unfold askL
 by_cases hj : i = j
 . subst hj
   rw [if_pos rfl, if_pos hi, List.getElem?_append_left (by rw [List.length_map, List.length_take]; omega), List.getElem?_map, List.getElem?_take_of_lt (by omega), h, Option.map_some]
 . rw [if_neg hj]
   rcases Nat.lt_or_ge j i with h1 | h1
   . rw [List.getElem?_append_left (by rw [List.length_map, List.length_take]; omega), List.getElem?_append_left (by rw [List.length_map, List.length_take]; omega), List.getElem?_map, List.getElem?_map, List.getElem?_take_of_lt h1, List.getElem?_take_of_lt (by omega)]
   . rw [List.getElem?_append_right (by rw [List.length_map, List.length_take]; omega), List.getElem?_append_right (by rw [List.length_map, List.length_take]; omega), List.length_map, List.length_map, List.length_take, List.length_take, List.getElem?_drop, List.getElem?_drop]
     congr 1; omega
theorem ask_light {l : List Pt} (h : lightB l) : lightB (l.map ask1) := by
 refine ⟨by rw [List.length_map]; exact h.1, fun p hp => ?_⟩
 rw [List.mem_map] at hp
 obtain ⟨q, hq, rfl⟩ := hp
 obtain ⟨h1, h2, h3, h4, h5⟩ := h.2 q hq
 unfold ask1
 split
 . rename_i hk
   exact ⟨h1, h2, fun h0 => by dsimp only at h0; omega, h4, fun _ => by dsimp only; omega⟩
 . exact ⟨h1, h2, h3, h4, h5⟩
theorem ask_zip : ∀ {l : List Pt} {ss : List (List Nat)}, ss.length = l.length -> (∀ (i : Nat) (p : Pt) (s : List Nat), l[i]? = some p -> ss[i]? = some s -> s.length = p.s.n) -> (l.zip ss).map askOf = l.map ask1
 | [], _, _, _ => rfl
 | p :: l, [], h, _ => by simp at h
 | p :: l, s :: ss, h, hn => by
   simp only [List.zip_cons_cons, List.map_cons]
   rw [ask_zip (l := l) (ss := ss) (by simpa using h) fun i p s h1 h2 => hn (i + 1) p s h1 h2]
   have := hn 0 p s rfl rfl
   unfold askOf ask1
   rw [<- this]
structure X5 where
 m : Fz
 rel : Rel TT
 vl : Value
 l : List Pt
 v1 : Value
 ls : List Nat
 v2 : Value
 es : List Nat
 big : Bool
structure c5OK (ss : List (List Nat)) (x : X5) : Prop where
 ls : ∀ n ∈ x.ls, n < 256
 es : ∀ n ∈ x.es, n < 256
 n : ∀ p ∈ x.l, 0 <= p.n
 v : ∀ p ∈ x.l, 0 <= p.v /\ p.v < 18446744073709551616
 ss : ssOK x.rel x.l ss
def c5 (ss : List (List Nat)) : Ctr TT where
 X := X5
 find a H := match a, H with
   | [.ro 36 vl l, .ro 5 v1 ls, .ro 5 v2 es, .v (.bool big)], [.F m, .R rel] => some ⟨m, rel, vl, l, v1, nats ls, v2, nats es, big⟩
   | _, _ => none
 phi x := c5OK ss x
 args x := [.ro 36 x.vl x.l, .ro 5 x.v1 (ints x.ls), .ro 5 x.v2 (ints x.es), bv x.big]
 H x := fr2 x.m x.rel
 outs := [{ Y := fun _ => Rel TT, psi := fun x y => True, res := fun x y => bv true, H := fun x y => fr2 x.m y }]
noncomputable def a5 (l : List Pt) : Ann TT := fun r S => match r with
 | 11 => match S.get 12 with
   | some (.o _ _ y _) => some {
     X := Nat
     phi := fun i => i <= l.length
     fr := fun i => [(13, iv .i64 i)]
     H := fun i => [(2, .O y 36 (askL l i))]
     mu := fun i => l.length - i }
   | _ => none
 | 5015 => match S.H, S.get 12 with
   | [_, .R r1, _], some (.o _ _ y _) => some {
     gone := [2]
     X := Rel TT
     phi := fun r => relLe r1 r /\ isRo r 36 y (askL l l.length)
     fr := fun r => [(12, .w y l.length)]
     H := fun r => [(1, .R r), (2, .X)]
     mu := fun _ => 0 }
   | _, _ => none
 | 24 => some {
   X := Nat
   phi := fun i => i <= l.length
   fr := fun i => [(23, iv .i64 i)]
   H := fun i => []
   mu := fun i => l.length - i }
 | _ => none
noncomputable def b5 (ss : List (List Nat)) : Nat -> Option (PT TT)
 | 21 => some (loc [some 36, some 90, some 97, some 5, none] c21.pt)
 | 24 => some (loc [some 36, some 90, some 97, none] (c24 ss).pt)
 | 25 => some (loc [some 36, some 90, some 97, none] (c25 ss).pt)
 | f => b30 f
end Pc
/-
 NewReader does what its contract says; a reader that has read nothing.
-/
set_option linter.unusedVariables false
set_option maxRecDepth 100000
open Go Go.Vg Go.Proofs
namespace Pc
def cond_c52 (G : Gl) (m : Fz) (rel : Rel TT) (v : Value) (bs : List Nat) : Prop :=
 ∀ x1 : Nat, ∃ x2 : Nat, True /\ (x1 = x2 /\ Ro) /\ m = m /\ relLe rel rel /\ x1 = x2 /\ (v = v /\ Rf (ints bs)) /\ Rz /\ Rf (-1 : Int) /\ True
noncomputable def law_c52 (G : Gl) (m : Fz) (rel : Rel TT) (v : Value) (bs : List Nat) : VCT := fnx (CC G) (IN G no NA) noAnn Tryz.f52 (c52.args (m, rel, v, bs)) (c52.H (m, rel, v, bs)) (outK true 2 (c52.ret (m, rel, v, bs))) (c52.pan (m, rel, v, bs))
theorem eq_c52 (G : Gl) (m : Fz) (rel : Rel TT) (v : Value) (bs : List Nat) : cond_c52 G m rel v bs = (law_c52 G m rel v bs).den := by kernel_rfl
theorem ok_c52 (G : Gl) (m : Fz) (rel : Rel TT) (v : Value) (bs : List Nat) : cond_c52 G m rel v bs := by
 unfold cond_c52
 exact fun b => ⟨b, trivial, ⟨rfl, rfl⟩, rfl, relLe.refl _, rfl, ⟨rfl, rfl⟩, rfl, rfl, trivial⟩
theorem s52 (G : Gl) : SpecOK (CC G) 52 c52.pt := spec G (no_ok G) (fn := Tryz.f52) rfl NA c52 (fun _ => noAnn) fun ⟨m, rel, v, bs⟩ h => Met.of (eq_c52 G m rel v bs) (ok_c52 G m rel v bs)
theorem rs_init {m : Fz} {rel : Rel TT} {rb sb bb : Nat} {vs : Value} {bs : List Nat} {big : Bool} (h1 : ∀ b ∈ bs, b < 256) (h2 : bs.length <= 1000000) {prev : Int} : rsOK ⟨m, rel, rb, sb, bb, vs, bs, big, 0, 0, 0, 0, .slice none 0 0, 0, 0, 0, 0, .slice none 0 0, 0, List.replicate 512 0, prev⟩ where
 l := {
   bytes := h1
   len := h2
   bk := ⟨Nat.zero_le _, show 0 < 2 ^ 64 by decide, fun k hk => absurd hk (Nat.not_lt_zero k), fun k => by
     rw [show bt 0 k = 0 from by unfold bt; simp]
     exact Nat.zero_le _⟩
   al := rfl
   end_ := Nat.zero_le _
   off := Nat.zero_le _
   pos := Nat.le_refl _
   arr := List.length_replicate
   pk := vw_nil _ _ _ _
   bv := vw_nil _ _ _ _
   cov := .inr ⟨rfl, show (0 + 0) / 8 <= (0 + 7) / 8 by decide⟩ }
 dis := rfl
 fed := ⟨Nat.le_refl _, Nat.zero_le _⟩
end Pc
/-
 Decoder.Init does what its contract says.
-/
set_option linter.unusedVariables false
set_option maxRecDepth 100000
open Go Go.Vg Go.Proofs
namespace Pc
def cond_c100 (G : Gl) (m : Fz) (rel : Rel TT) (db : Nat) (cv : Value) (lens : List Nat) : Prop :=
 Br (decide ((↑(List.length (canonL lens)) : Int) <= (1 : Int))) (Br ((↑(List.length (canonL lens)) : Int) == (0 : Int)) (db = db /\ (Rz /\ Rz) /\ db = db /\ (Rz /\ Rz) /\ db = db /\ db = db /\ ∃ x1 : DC × Rel TT, (relLe rel x1.2 /\ decOK x1.2 lens x1.1) /\ m = m /\ relLe x1.2 rel /\ db = db /\ (Rn /\ Value.slice none 0 0 = x1.1.cv /\ ints x1.1.ch = []) /\ (Rn /\ Value.slice none 0 0 = x1.1.lv /\ x1.1.lk = []) /\ (0 : Int) = (x1.1.cm : Int) /\ (0 : Int) = (x1.1.lm : Int) /\ (0 : Int) = (x1.1.cb : Int) /\ (0 : Int) = (x1.1.mb : Int) /\ (0 : Int) = (x1.1.ns : Int) /\ True) (Br ((↑(List.length (canonL lens)) : Int) == (1 : Int)) (inRange (0 : Int) (List.length (canonL lens)) /\ (0 : Nat) < List.length (canonL lens) /\ (0 : Nat) < List.length (canonL lens) /\ ∀ x1 : Cd, (((canonL lens)[(0 : Nat)]? = some x1) -> Br (x1.len == (0 : Int)) (db = db /\ (Rz /\ Rz) /\ inRange (0 : Int) (List.length (canonL lens)) /\ (0 : Nat) < List.length (canonL lens) /\ (0 : Nat) < List.length (canonL lens) /\ ∀ x2 : Cd, (((canonL lens)[(0 : Nat)]? = some x2) -> (0 : Int) <= (5 : Int) /\ ∀ x3 : Nat, Rf (SV.toV (T := TT) (SV.p 2 db (Off.lit 0))) /\ Rf (SV.toV (T := TT) (SV.p 2 db (Off.lit 0))) /\ Rf (SV.toV (T := TT) (SV.p 2 db (Off.lit 0))) /\ SV.toV (T := TT) (SV.p 2 db (Off.add (Off.lit 0) 0)) = SV.toV (T := TT) (SV.p 2 db (Off.lit 0)) /\ db = db /\ Rf (SV.toV (T := TT) (SV.v (Value.slice none 0 0))) /\ (Rz /\ Rz) /\ Rf (SV.toV (T := TT) (SV.v (Value.slice none 0 0))) /\ (Rf (Value.slice (some (Addr.mk x3 0 none)) 1 1) /\ 1 = List.length [bitI BinOp.or IntKind.u32 (shlI IntKind.u32 x2.sym (5 : Int)) (0 : Int)]) /\ room (List.length [bitI BinOp.or IntKind.u32 (shlI IntKind.u32 x2.sym (5 : Int)) (0 : Int)]) 4 /\ ∀ x4 : Value, Rf (SV.toV (T := TT) (SV.p 2 db (Off.lit 0))) /\ db = db /\ db = db /\ x4 = x4 /\ (Rf (List.length [bitI BinOp.or IntKind.u32 (shlI IntKind.u32 x2.sym (5 : Int)) (0 : Int)]) /\ (0 : Int) <= (0 : Int) /\ (0 : Int) <= (1 : Int) /\ (1 : Int) <= (↑(List.length [bitI BinOp.or IntKind.u32 (shlI IntKind.u32 x2.sym (5 : Int)) (0 : Int)]) : Int)) /\ db = db /\ (Rz /\ Rz) /\ db = db /\ db = db /\ ∃ x5 : DC × Rel TT, (relLe rel x5.2 /\ decOK x5.2 lens x5.1) /\ m = m /\ relLe x5.2 (relAdd rel 43 (Value.slice (some (Addr.mk x3 0 none)) 1 1) [bitI BinOp.or IntKind.u32 (shlI IntKind.u32 x2.sym (5 : Int)) (0 : Int)]) /\ db = db /\ False /- "match: values of two makes" -/)) (False /- "an end that is not among the contract's" -/))) (False /- "an end that is not among the contract's" -/))) (∃ x1 : Nat × Nat × Nat, (x1.1 <= List.length lens /\ mmOK lens x1.1 x1.2.1 x1.2.2) /\ (0 : Int) = (x1.1 : Int) /\ (27 : Int) = (x1.2.1 : Int) /\ (0 : Int) = (x1.2.2 : Int) /\ m = m /\ relLe rel rel /\ db = db /\ Rn /\ Rn /\ Rz /\ Rz /\ Rz /\ Rz /\ Rz /\ ∀ x2 : Nat × Nat × Nat, ((x2.1 <= List.length lens /\ mmOK lens x2.1 x2.2.1 x2.2.2) -> Br (decide ((x2.1 : Int) < (↑(List.length (canonL lens)) : Int))) (inRange (x2.1 : Int) (List.length (canonL lens)) /\ x2.1 < List.length (canonL lens) /\ ∀ x3 : Cd, (((canonL lens)[x2.1]? = some x3) ->
 ∀ x4 : Nat, x4 = x4 /\ x4 = x4 /\ Br (decide ((x2.2.1 : Int) > x3.len)) (x4 = x4 /\ x4 = x4 /\ Br (decide ((x2.2.2 : Int) < x3.len)) (x4 = x4 /\ inI64 ((x2.1 : Int) + (1 : Int)) /\ ∃ x5 : Nat × Nat × Nat, ((x5.1 <= List.length lens /\ mmOK lens x5.1 x5.2.1 x5.2.2) /\ List.length lens - x5.1 < List.length lens - x2.1) /\ (x2.1 : Int) + (1 : Int) = (x5.1 : Int) /\ x3.len = (x5.2.1 : Int) /\ x3.len = (x5.2.2 : Int) /\ m = m /\ relLe rel rel /\ db = db /\ Rn /\ Rn /\ Rz /\ Rz /\ Rz /\ Rz /\ Rz /\ True) (inI64 ((x2.1 : Int) + (1 : Int)) /\ ∃ x5 : Nat × Nat × Nat, ((x5.1 <= List.length lens /\ mmOK lens x5.1 x5.2.1 x5.2.2) /\ List.length lens - x5.1 < List.length lens - x2.1) /\ (x2.1 : Int) + (1 : Int) = (x5.1 : Int) /\ x3.len = (x5.2.1 : Int) /\ (x2.2.2 : Int) = (x5.2.2 : Int) /\ m = m /\ relLe rel rel /\ db = db /\ Rn /\ Rn /\ Rz /\ Rz /\ Rz /\ Rz /\ Rz /\ True)) (x4 = x4 /\ Br (decide ((x2.2.2 : Int) < x3.len)) (x4 = x4 /\ inI64 ((x2.1 : Int) + (1 : Int)) /\ ∃ x5 : Nat × Nat × Nat, ((x5.1 <= List.length lens /\ mmOK lens x5.1 x5.2.1 x5.2.2) /\ List.length lens - x5.1 < List.length lens - x2.1) /\ (x2.1 : Int) + (1 : Int) = (x5.1 : Int) /\ (x2.2.1 : Int) = (x5.2.1 : Int) /\ x3.len = (x5.2.2 : Int) /\ m = m /\ relLe rel rel /\ db = db /\ Rn /\ Rn /\ Rz /\ Rz /\ Rz /\ Rz /\ Rz /\ True) (inI64 ((x2.1 : Int) + (1 : Int)) /\ ∃ x5 : Nat × Nat × Nat, ((x5.1 <= List.length lens /\ mmOK lens x5.1 x5.2.1 x5.2.2) /\ List.length lens - x5.1 < List.length lens - x2.1) /\ (x2.1 : Int) + (1 : Int) = (x5.1 : Int) /\ (x2.2.1 : Int) = (x5.2.1 : Int) /\ (x2.2.2 : Int) = (x5.2.2 : Int) /\ m = m /\ relLe rel rel /\ db = db /\ Rn /\ Rn /\ Rz /\ Rz /\ Rz /\ Rz /\ Rz /\ True)))) (db = db /\ db = db /\ db = db /\ (db = db /\ Br (decide ((x2.2.2 : Int) > (9 : Int))) (db = db /\ ∃ x3 : Nat, x3 = min x2.2.2 9 /\ m = m /\ relLe rel rel /\ db = db /\ Rn /\ Rn /\ Rz /\ Rz /\ (9 : Int) = (x3 : Int) /\ Rf (x2.2.1 : Int) /\ (Rf (IntKind.wrap IntKind.u32 (↑(List.length (canonL lens)) : Int))) /\ True) (∃ x3 : Nat, x3 = min x2.2.2 9 /\ m = m /\ relLe rel rel /\ db = db /\ Rn /\ Rn /\ Rz /\ Rz /\ (x2.2.2 : Int) = (x3 : Int) /\ Rf (x2.2.1 : Int) /\ (Rf (IntKind.wrap IntKind.u32 (↑(List.length (canonL lens)) : Int))) /\ True)) /\ (∀ x3 : Nat, ((x3 = min x2.2.2 9) -> db = db /\ (0 : Int) <= (x3 : Int) /\ db = db /\ ∀ x4 : Fz, ((0 : Nat) < Int.toNat (shlI IntKind.i64 (1 : Int) (x3 : Int)) /\ Int.toNat (shlI IntKind.i64 (1 : Int) (x3 : Int)) <= 1000000) /\ (Rn /\ Rn /\ Rf 0) /\ (shlI IntKind.i64 (1 : Int) (x3 : Int) = (↑(Int.toNat (shlI IntKind.i64 (1 : Int) (x3 : Int))) : Int)) /\ x4 = x4 /\ relLe rel rel /\ ∀ x5 : Value, (True -> x4 = x4 /\ db = db /\ (inI64 (shlI IntKind.i64 (1 : Int) (x3 : Int) - (1 : Int)) /\ db = db /\ ∃ x6 : Nat × Nat × Nat, (mmOK lens (List.length lens) x6.1 x6.2.1 /\ x6.2.2 = min x6.2.1 9) /\ (x2.2.2 : Int) = (x6.2.1 : Int) /\ m = m /\ relLe rel rel /\ db = db /\ (x5 = x5 /\ Int.toNat (shlI IntKind.i64 (1 : Int) (x3 : Int)) = (2 : Nat) ^ x6.2.2) /\ Rn /\ (IntKind.wrap IntKind.u32 (shlI IntKind.i64 (1 : Int) (x3 : Int) - (1 : Int)) = (↑((2 : Nat) ^ x6.2.2 - 1) : Int)) /\ Rz /\
 (x3 : Int) = (x6.2.2 : Int) /\ (x2.2.1 : Int) = (x6.1 : Int) /\ (IntKind.wrap IntKind.u32 (↑(List.length (canonL lens)) : Int) = (↑(List.length lens) : Int)) /\ (x5 = x5 /\ ints (List.replicate (Int.toNat (shlI IntKind.i64 (1 : Int) (x3 : Int))) 0) = ints (List.replicate ((2 : Nat) ^ x6.2.2) 0)) /\ True) /\ (∀ x6 : Nat × Nat × Nat, ((mmOK lens (List.length lens) x6.1 x6.2.1 /\ x6.2.2 = min x6.2.1 9) -> db = db /\ (Rz /\ Rz) /\ db = db /\ db = db /\ db = db /\ Br (decide ((x6.2.2 : Int) < (x6.2.1 : Int))) (db = db /\ (0 : Int) <= IntKind.wrap IntKind.u32 ((x6.2.1 : Int) - (x6.2.2 : Int)) /\ (inI64 (shlI IntKind.i64 (1 : Int) (IntKind.wrap IntKind.u32 ((x6.2.1 : Int) - (x6.2.2 : Int))) - (1 : Int)) /\ db = db /\ ∃ x7 : Unit, True /\ (shlI IntKind.i64 (1 : Int) (IntKind.wrap IntKind.u32 ((x6.2.1 : Int) - (x6.2.2 : Int))) = (↑((2 : Nat) ^ (x6.2.1 - x6.2.2)) : Int)) /\ m = m /\ relLe rel rel /\ db = db /\ (x5 = x5 /\ Rf ((2 : Nat) ^ x6.2.2)) /\ Rn /\ (Rf (↑((2 : Nat) ^ x6.2.2 - 1) : Int)) /\ (IntKind.wrap IntKind.u32 (shlI IntKind.i64 (1 : Int) (IntKind.wrap IntKind.u32 ((x6.2.1 : Int) - (x6.2.2 : Int))) - (1 : Int)) = (↑((2 : Nat) ^ (x6.2.1 - x6.2.2) - 1) : Int)) /\ Rf (x6.2.2 : Int) /\ Rf (x6.1 : Int) /\ Rf (↑(List.length lens) : Int) /\ (x5 = x5 /\ Rf (ints (List.replicate ((2 : Nat) ^ x6.2.2) 0))) /\ True) /\ (∀ x7 : Unit, (True -> db = db /\ ∃ x8 : Nat, x8 <= List.length (ints (List.replicate ((2 : Nat) ^ x6.2.2) 0)) /\ (0 : Int) = (x8 : Int) /\ m = m /\ relLe rel rel /\ db = db /\ (x5 = x5 /\ Rf ((2 : Nat) ^ x6.2.2)) /\ Rn /\ (Rf (↑((2 : Nat) ^ x6.2.2 - 1) : Int)) /\ (Rf (↑((2 : Nat) ^ (x6.2.1 - x6.2.2) - 1) : Int)) /\ Rf (x6.2.2 : Int) /\ Rf (x6.1 : Int) /\ Rf (↑(List.length lens) : Int) /\ (x5 = x5 /\ Rf (ints (List.replicate ((2 : Nat) ^ x6.2.2) 0))) /\ ∀ x9 : Nat, ((x9 <= List.length (ints (List.replicate ((2 : Nat) ^ x6.2.2) 0))) -> Br (decide ((x9 : Int) < (↑((2 : Nat) ^ x6.2.2) : Int))) (db = db /\ x5 = x5 /\ inRange (x9 : Int) (List.length (ints (List.replicate ((2 : Nat) ^ x6.2.2) 0))) /\ (x5 = x5 /\ x9 < List.length (ints (List.replicate ((2 : Nat) ^ x6.2.2) 0))) /\ inI64 ((x9 : Int) + (1 : Int)) /\ ∃ x10 : Nat, (x10 <= List.length (ints (List.replicate ((2 : Nat) ^ x6.2.2) 0)) /\ List.length (ints (List.replicate ((2 : Nat) ^ x6.2.2) 0)) - x10 < List.length (ints (List.replicate ((2 : Nat) ^ x6.2.2) 0)) - x9) /\ (x9 : Int) + (1 : Int) = (x10 : Int) /\ m = m /\ relLe rel rel /\ db = db /\ (x5 = x5 /\ Rf ((2 : Nat) ^ x6.2.2)) /\ Rn /\ (Rf (↑((2 : Nat) ^ x6.2.2 - 1) : Int)) /\ (Rf (↑((2 : Nat) ^ (x6.2.1 - x6.2.2) - 1) : Int)) /\ Rf (x6.2.2 : Int) /\ Rf (x6.1 : Int) /\ Rf (↑(List.length lens) : Int) /\ (x5 = x5 /\ List.set (ints (List.replicate ((2 : Nat) ^ x6.2.2) 0)) x9 (0 : Int) = ints (List.replicate ((2 : Nat) ^ x6.2.2) 0)) /\ True) (∃ x10 : Nat × List Nat × Nat, (x10.1 <= List.length lens /\ linkOK lens x6.2.2 x10.1 x10.2.1 x10.2.2) /\ (0 : Int) = (x10.1 : Int) /\ (0 : Int) = (x10.2.2 : Int) /\ m = m /\ relLe rel rel /\ db = db /\ (x5 = x5 /\ Rf ((2 : Nat) ^ x6.2.2)) /\
 Rn /\ (Rf (↑((2 : Nat) ^ x6.2.2 - 1) : Int)) /\ (Rf (↑((2 : Nat) ^ (x6.2.1 - x6.2.2) - 1) : Int)) /\ Rf (x6.2.2 : Int) /\ Rf (x6.1 : Int) /\ Rf (↑(List.length lens) : Int) /\ (x5 = x5 /\ ints (List.replicate ((2 : Nat) ^ x6.2.2) 0) = ints x10.2.1) /\ ∀ x11 : Nat × List Nat × Nat, ((x11.1 <= List.length lens /\ linkOK lens x6.2.2 x11.1 x11.2.1 x11.2.2) -> Br (decide ((x11.1 : Int) < (↑(List.length (canonL lens)) : Int))) (inRange (x11.1 : Int) (List.length (canonL lens)) /\ x11.1 < List.length (canonL lens) /\ ∀ x12 : Cd, (((canonL lens)[x11.1]? = some x12) -> ∀ x13 : Nat, x13 = x13 /\ x13 = x13 /\ db = db /\ Br (decide (x12.len > (x6.2.2 : Int))) (db = db /\ x13 = x13 /\ db = db /\ x5 = x5 /\ (inRange (bitI BinOp.and IntKind.u32 x12.val (↑((2 : Nat) ^ x6.2.2 - 1) : Int)) (List.length (ints x11.2.1))) /\ x5 = x5 /\ (Int.toNat (bitI BinOp.and IntKind.u32 x12.val (↑((2 : Nat) ^ x6.2.2 - 1) : Int)) < List.length (ints x11.2.1)) /\ ∀ x14 : Int, (((ints x11.2.1)[Int.toNat (bitI BinOp.and IntKind.u32 x12.val (↑((2 : Nat) ^ x6.2.2 - 1) : Int))]? = some x14) -> Br (x14 == (0 : Int)) (db = db /\ x13 = x13 /\ db = db /\ (0 : Int) <= (5 : Int) /\ db = db /\ x5 = x5 /\ (inRange (bitI BinOp.and IntKind.u32 x12.val (↑((2 : Nat) ^ x6.2.2 - 1) : Int)) (List.length (ints x11.2.1))) /\ (x5 = x5 /\ Int.toNat (bitI BinOp.and IntKind.u32 x12.val (↑((2 : Nat) ^ x6.2.2 - 1) : Int)) < List.length (ints x11.2.1)) /\ inI64 ((x11.1 : Int) + (1 : Int)) /\ ∃ x15 : Nat × List Nat × Nat, ((x15.1 <= List.length lens /\ linkOK lens x6.2.2 x15.1 x15.2.1 x15.2.2) /\ List.length lens - x15.1 < List.length lens - x11.1) /\ (x11.1 : Int) + (1 : Int) = (x15.1 : Int) /\ IntKind.wrap IntKind.u32 ((x11.2.2 : Int) + (1 : Int)) = (x15.2.2 : Int) /\ m = m /\ relLe rel rel /\ db = db /\ (x5 = x5 /\ Rf ((2 : Nat) ^ x6.2.2)) /\ Rn /\ (Rf (↑((2 : Nat) ^ x6.2.2 - 1) : Int)) /\ (Rf (↑((2 : Nat) ^ (x6.2.1 - x6.2.2) - 1) : Int)) /\ Rf (x6.2.2 : Int) /\ Rf (x6.1 : Int) /\ Rf (↑(List.length lens) : Int) /\ (x5 = x5 /\ List.set (ints x11.2.1) (Int.toNat (bitI BinOp.and IntKind.u32 x12.val (↑((2 : Nat) ^ x6.2.2 - 1) : Int))) (bitI BinOp.or IntKind.u32 (shlI IntKind.u32 (x11.2.2 : Int) (5 : Int)) (IntKind.wrap IntKind.u32 ((x6.2.2 : Int) + (1 : Int)))) = ints x15.2.1) /\ True) (inI64 ((x11.1 : Int) + (1 : Int)) /\ ∃ x15 : Nat × List Nat × Nat, ((x15.1 <= List.length lens /\ linkOK lens x6.2.2 x15.1 x15.2.1 x15.2.2) /\ List.length lens - x15.1 < List.length lens - x11.1) /\ (x11.1 : Int) + (1 : Int) = (x15.1 : Int) /\ (x11.2.2 : Int) = (x15.2.2 : Int) /\ m = m /\ relLe rel rel /\ db = db /\ (x5 = x5 /\ Rf ((2 : Nat) ^ x6.2.2)) /\ Rn /\ (Rf (↑((2 : Nat) ^ x6.2.2 - 1) : Int)) /\ (Rf (↑((2 : Nat) ^ (x6.2.1 - x6.2.2) - 1) : Int)) /\ Rf (x6.2.2 : Int) /\ Rf (x6.1 : Int) /\ Rf (↑(List.length lens) : Int) /\ (x5 = x5 /\ ints x11.2.1 = ints x15.2.1) /\ True))) (inI64 ((x11.1 : Int) + (1 : Int)) /\ ∃ x14 : Nat × List Nat × Nat, ((x14.1 <= List.length lens /\ linkOK lens x6.2.2 x14.1 x14.2.1 x14.2.2) /\ List.length lens - x14.1 < List.length lens - x11.1) /\
 (x11.1 : Int) + (1 : Int) = (x14.1 : Int) /\ (x11.2.2 : Int) = (x14.2.2 : Int) /\ m = m /\ relLe rel rel /\ db = db /\ (x5 = x5 /\ Rf ((2 : Nat) ^ x6.2.2)) /\ Rn /\ (Rf (↑((2 : Nat) ^ x6.2.2 - 1) : Int)) /\ (Rf (↑((2 : Nat) ^ (x6.2.1 - x6.2.2) - 1) : Int)) /\ Rf (x6.2.2 : Int) /\ Rf (x6.1 : Int) /\ Rf (↑(List.length lens) : Int) /\ (x5 = x5 /\ ints x11.2.1 = ints x14.2.1) /\ True))) (db = db /\ inI64 (x11.2.2 : Int) /\ ∀ x12 : Fz, ((0 : Nat) < x11.2.2 /\ x11.2.2 <= 1000000) /\ Rn /\ Rf (x11.2.2 : Int) /\ x12 = x12 /\ relLe rel rel /\ ∀ x13 : Value, (True -> x12 = x12 /\ db = db /\ db = db /\ x13 = x13 /\ inRange (0 : Int) (List.length (List.replicate x11.2.2 slN)) /\ x13 = x13 /\ (0 : Nat) < List.length (List.replicate x11.2.2 slN) /\ ∀ x14 : Sl, (((List.replicate x11.2.2 slN)[(0 : Nat)]? = some x14) -> inI64 (x11.2.2 : Int) /\ (inI64 ((↑((2 : Nat) ^ (x6.2.1 - x6.2.2)) : Int) * (x11.2.2 : Int))) /\ ∀ x15 : Fz, ((0 : Nat) < Int.toNat ((↑((2 : Nat) ^ (x6.2.1 - x6.2.2)) : Int) * (x11.2.2 : Int)) /\ Int.toNat ((↑((2 : Nat) ^ (x6.2.1 - x6.2.2)) : Int) * (x11.2.2 : Int)) <= 1000000) /\ (Value.slice x14.A x14.n x14.cap = Value.slice none 0 0 /\ x14.n = 0) /\ ((↑((2 : Nat) ^ (x6.2.1 - x6.2.2)) : Int) * (x11.2.2 : Int) = (↑(Int.toNat ((↑((2 : Nat) ^ (x6.2.1 - x6.2.2)) : Int) * (x11.2.2 : Int))) : Int)) /\ x15 = x15 /\ relLe rel rel /\ ∀ x16 : Value, (True -> x15 = x15 /\ ∃ x17 : Nat × List Sl, (x17.1 <= x11.2.2 /\ links x16 (((2 : Nat) ^ (x6.2.1 - x6.2.2))) x11.2.2 x17.1 x17.2) /\ (0 : Int) = (x17.1 : Int) /\ ((0 : Int) = (↑(x17.1 * ((2 : Nat) ^ (x6.2.1 - x6.2.2))) : Int)) /\ m = m /\ relLe rel rel /\ db = db /\ (x5 = x5 /\ Rf ((2 : Nat) ^ x6.2.2)) /\ (x13 = x13 /\ Rf x11.2.2) /\ (Rf (↑((2 : Nat) ^ x6.2.2 - 1) : Int)) /\ (Rf (↑((2 : Nat) ^ (x6.2.1 - x6.2.2) - 1) : Int)) /\ Rf (x6.2.2 : Int) /\ Rf (x6.1 : Int) /\ Rf (↑(List.length lens) : Int) /\ (x5 = x5 /\ Rf (ints x11.2.1)) /\ (x13 = x13 /\ List.replicate x11.2.2 slN = x17.2) /\ (x16 = x16 /\ Rf (ints (List.replicate (Int.toNat ((↑((2 : Nat) ^ (x6.2.1 - x6.2.2)) : Int) * (x11.2.2 : Int))) 0))) /\ ∀ x18 : Nat × List Sl, ((x18.1 <= x11.2.2 /\ links x16 (((2 : Nat) ^ (x6.2.1 - x6.2.2))) x11.2.2 x18.1 x18.2) -> db = db /\ Br (decide ((x18.1 : Int) < (x11.2.2 : Int))) (db = db /\ (inI64 ((↑(x18.1 * ((2 : Nat) ^ (x6.2.1 - x6.2.2))) : Int) + (↑((2 : Nat) ^ (x6.2.1 - x6.2.2)) : Int))) /\ x16 = x16 /\ (Int.toNat ((↑((2 : Nat) ^ (x6.2.1 - x6.2.2)) : Int) * (x11.2.2 : Int)) = List.length (ints (List.replicate (Int.toNat ((↑((2 : Nat) ^ (x6.2.1 - x6.2.2)) : Int) * (x11.2.2 : Int))) 0)) /\ (0 : Int) <= (↑(x18.1 * ((2 : Nat) ^ (x6.2.1 - x6.2.2))) : Int) /\ (↑(x18.1 * ((2 : Nat) ^ (x6.2.1 - x6.2.2))) : Int) <= (↑(x18.1 * ((2 : Nat) ^ (x6.2.1 - x6.2.2))) : Int) + (↑((2 : Nat) ^ (x6.2.1 - x6.2.2)) : Int) /\ (↑(x18.1 * ((2 : Nat) ^ (x6.2.1 - x6.2.2))) : Int) + (↑((2 : Nat) ^ (x6.2.1 - x6.2.2)) : Int) <= (↑(Int.toNat ((↑((2 : Nat) ^ (x6.2.1 - x6.2.2)) : Int) * (x11.2.2 : Int))) : Int)) /\ x13 = x13 /\ inRange (x18.1 : Int) x18.2.length /\
 ∀ x19 : Option Addr, ∀ x20 : Nat, ((sliceVal x16 ((x18.1 * ((2 : Nat) ^ (x6.2.1 - x6.2.2)))) (Int.toNat ((↑(x18.1 * ((2 : Nat) ^ (x6.2.1 - x6.2.2))) : Int) + (↑((2 : Nat) ^ (x6.2.1 - x6.2.2)) : Int))) 1 = Value.slice x19 (Int.toNat ((↑(x18.1 * ((2 : Nat) ^ (x6.2.1 - x6.2.2))) : Int) + (↑((2 : Nat) ^ (x6.2.1 - x6.2.2)) : Int)) - (x18.1 * ((2 : Nat) ^ (x6.2.1 - x6.2.2)))) x20) -> (x13 = x13 /\ x18.1 < x18.2.length) /\ inI64 ((x18.1 : Int) + (1 : Int)) /\ (inI64 ((↑(x18.1 * ((2 : Nat) ^ (x6.2.1 - x6.2.2))) : Int) + (↑((2 : Nat) ^ (x6.2.1 - x6.2.2)) : Int))) /\ ∃ x21 : Nat × List Sl, ((x21.1 <= x11.2.2 /\ links x16 (((2 : Nat) ^ (x6.2.1 - x6.2.2))) x11.2.2 x21.1 x21.2) /\ x11.2.2 - x21.1 < x11.2.2 - x18.1) /\ (x18.1 : Int) + (1 : Int) = (x21.1 : Int) /\ ((↑(x18.1 * ((2 : Nat) ^ (x6.2.1 - x6.2.2))) : Int) + (↑((2 : Nat) ^ (x6.2.1 - x6.2.2)) : Int) = (↑(x21.1 * ((2 : Nat) ^ (x6.2.1 - x6.2.2))) : Int)) /\ m = m /\ relLe rel rel /\ db = db /\ (x5 = x5 /\ Rf ((2 : Nat) ^ x6.2.2)) /\ (x13 = x13 /\ Rf x11.2.2) /\ (Rf (↑((2 : Nat) ^ x6.2.2 - 1) : Int)) /\ (Rf (↑((2 : Nat) ^ (x6.2.1 - x6.2.2) - 1) : Int)) /\ Rf (x6.2.2 : Int) /\ Rf (x6.1 : Int) /\ Rf (↑(List.length lens) : Int) /\ (x5 = x5 /\ Rf (ints x11.2.1)) /\ (x13 = x13 /\ List.set x18.2 x18.1 (Sl.mk x19 (Int.toNat ((↑(x18.1 * ((2 : Nat) ^ (x6.2.1 - x6.2.2))) : Int) + (↑((2 : Nat) ^ (x6.2.1 - x6.2.2)) : Int)) - (x18.1 * ((2 : Nat) ^ (x6.2.1 - x6.2.2)))) x20) = x21.2) /\ (x16 = x16 /\ Rf (ints (List.replicate (Int.toNat ((↑((2 : Nat) ^ (x6.2.1 - x6.2.2)) : Int) * (x11.2.2 : Int))) 0))) /\ True)) (∃ x19 : Nat × List Nat × List Nat, (x19.1 <= List.length lens /\ tabs lens x6.2.2 (x6.2.1 - x6.2.2) (nats (ints x11.2.1)) x19.1 x19.2.1 x19.2.2 /\ x19.2.2.length = List.length (ints (List.replicate (Int.toNat ((↑((2 : Nat) ^ (x6.2.1 - x6.2.2)) : Int) * (x11.2.2 : Int))) 0))) /\ (0 : Int) = (x19.1 : Int) /\ m = m /\ relLe rel rel /\ db = db /\ (x5 = x5 /\ Rf ((2 : Nat) ^ x6.2.2)) /\ (x13 = x13 /\ Rf x11.2.2) /\ (Rf (↑((2 : Nat) ^ x6.2.2 - 1) : Int)) /\ (Rf (↑((2 : Nat) ^ (x6.2.1 - x6.2.2) - 1) : Int)) /\ Rf (x6.2.2 : Int) /\ Rf (x6.1 : Int) /\ Rf (↑(List.length lens) : Int) /\ (x5 = x5 /\ ints x11.2.1 = ints x19.2.1) /\ (x13 = x13 /\ Rf x18.2) /\ (x16 = x16 /\ ints (List.replicate (Int.toNat ((↑((2 : Nat) ^ (x6.2.1 - x6.2.2)) : Int) * (x11.2.2 : Int))) 0) = ints x19.2.2) /\ ∀ x20 : Nat × List Nat × List Nat, ((x20.1 <= List.length lens /\ tabs lens x6.2.2 (x6.2.1 - x6.2.2) (nats (ints x11.2.1)) x20.1 x20.2.1 x20.2.2 /\ x20.2.2.length = List.length (ints (List.replicate (Int.toNat ((↑((2 : Nat) ^ (x6.2.1 - x6.2.2)) : Int) * (x11.2.2 : Int))) 0))) -> Br (decide ((x20.1 : Int) < (↑(List.length (canonL lens)) : Int))) (inRange (x20.1 : Int) (List.length (canonL lens)) /\ x20.1 < List.length (canonL lens) /\ ∀ x21 : Cd, (((canonL lens)[x20.1]? = some x21) -> ∀ x22 : Nat, x22 = x22 /\ x22 = x22 /\ (0 : Int) <= (5 : Int) /\ x22 = x22 /\ x22 = x22 /\ db = db /\ Br (decide (x21.len <= (x6.2.2 : Int))) (x22 = x22 /\ (0 : Int) <= IntKind.wrap IntKind.u64 x21.len /\ x22 = x22 /\ inI64 x21.val /\
 ∃ x23 : Nat, (x23 % (2 : Nat) ^ List.getD lens x20.1 0 = cval lens x20.1 /\ x23 < List.length (nats (ints x20.2.1)) + (2 : Nat) ^ List.getD lens x20.1 0) /\ bitI BinOp.or IntKind.u32 (shlI IntKind.u32 x21.sym (5 : Int)) x21.len = (↑(x20.1 * 32 + List.getD lens x20.1 0) : Int) /\ (shlI IntKind.i64 (1 : Int) (IntKind.wrap IntKind.u64 x21.len) = (↑((2 : Nat) ^ List.getD lens x20.1 0) : Int)) /\ x21.val = (x23 : Int) /\ m = m /\ relLe rel rel /\ db = db /\ (x5 = x5 /\ Rf ((2 : Nat) ^ x6.2.2)) /\ (x13 = x13 /\ Rf x11.2.2) /\ (Rf (↑((2 : Nat) ^ x6.2.2 - 1) : Int)) /\ (Rf (↑((2 : Nat) ^ (x6.2.1 - x6.2.2) - 1) : Int)) /\ Rf (x6.2.2 : Int) /\ Rf (x6.1 : Int) /\ Rf (↑(List.length lens) : Int) /\ (x5 = x5 /\ ints x20.2.1 = ints (fillAt (nats (ints x20.2.1)) 0 ((2 : Nat) ^ List.getD lens x20.1 0) (cval lens x20.1) (x20.1 * 32 + List.getD lens x20.1 0) x23)) /\ (x13 = x13 /\ Rf x18.2) /\ (x16 = x16 /\ Rf (ints x20.2.2)) /\ x22 = x22 /\ Rf x21.sym /\ Rf x21.cnt /\ Rf x21.len /\ Rf x21.val /\ ∀ x24 : Nat, ((x24 % (2 : Nat) ^ List.getD lens x20.1 0 = cval lens x20.1 /\ x24 < List.length (nats (ints x20.2.1)) + (2 : Nat) ^ List.getD lens x20.1 0) -> db = db /\ Br (decide ((x24 : Int) < (↑((2 : Nat) ^ x6.2.2) : Int))) (db = db /\ x5 = x5 /\ inRange (x24 : Int) (List.length (ints (fillAt (nats (ints x20.2.1)) 0 ((2 : Nat) ^ List.getD lens x20.1 0) (cval lens x20.1) (x20.1 * 32 + List.getD lens x20.1 0) x24))) /\ (x5 = x5 /\ x24 < List.length (ints (fillAt (nats (ints x20.2.1)) 0 ((2 : Nat) ^ List.getD lens x20.1 0) (cval lens x20.1) (x20.1 * 32 + List.getD lens x20.1 0) x24))) /\ (inI64 ((x24 : Int) + (↑((2 : Nat) ^ List.getD lens x20.1 0) : Int))) /\ ∃ x25 : Nat, ((x25 % (2 : Nat) ^ List.getD lens x20.1 0 = cval lens x20.1 /\ x25 < List.length (nats (ints x20.2.1)) + (2 : Nat) ^ List.getD lens x20.1 0) /\ List.length (nats (ints x20.2.1)) + (2 : Nat) ^ List.getD lens x20.1 0 - x25 < List.length (nats (ints x20.2.1)) + (2 : Nat) ^ List.getD lens x20.1 0 - x24) /\ Rf (↑(x20.1 * 32 + List.getD lens x20.1 0) : Int) /\ (Rf (↑((2 : Nat) ^ List.getD lens x20.1 0) : Int)) /\ ((x24 : Int) + (↑((2 : Nat) ^ List.getD lens x20.1 0) : Int) = (x25 : Int)) /\ m = m /\ relLe rel rel /\ db = db /\ (x5 = x5 /\ Rf ((2 : Nat) ^ x6.2.2)) /\ (x13 = x13 /\ Rf x11.2.2) /\ (Rf (↑((2 : Nat) ^ x6.2.2 - 1) : Int)) /\ (Rf (↑((2 : Nat) ^ (x6.2.1 - x6.2.2) - 1) : Int)) /\ Rf (x6.2.2 : Int) /\ Rf (x6.1 : Int) /\ Rf (↑(List.length lens) : Int) /\ (x5 = x5 /\ List.set (ints (fillAt (nats (ints x20.2.1)) 0 ((2 : Nat) ^ List.getD lens x20.1 0) (cval lens x20.1) (x20.1 * 32 + List.getD lens x20.1 0) x24)) x24 (↑(x20.1 * 32 + List.getD lens x20.1 0) : Int) = ints (fillAt (nats (ints x20.2.1)) 0 ((2 : Nat) ^ List.getD lens x20.1 0) (cval lens x20.1) (x20.1 * 32 + List.getD lens x20.1 0) x25)) /\ (x13 = x13 /\ Rf x18.2) /\ (x16 = x16 /\ Rf (ints x20.2.2)) /\ x22 = x22 /\ Rf x21.sym /\ Rf x21.cnt /\ Rf x21.len /\ Rf x21.val /\ True) (inI64 ((x20.1 : Int) + (1 : Int)) /\
 ∃ x25 : Nat × List Nat × List Nat, ((x25.1 <= List.length lens /\ tabs lens x6.2.2 (x6.2.1 - x6.2.2) (nats (ints x11.2.1)) x25.1 x25.2.1 x25.2.2 /\ x25.2.2.length = List.length (ints (List.replicate (Int.toNat ((↑((2 : Nat) ^ (x6.2.1 - x6.2.2)) : Int) * (x11.2.2 : Int))) 0))) /\ List.length lens - x25.1 < List.length lens - x20.1) /\ (x20.1 : Int) + (1 : Int) = (x25.1 : Int) /\ m = m /\ relLe rel rel /\ db = db /\ (x5 = x5 /\ Rf ((2 : Nat) ^ x6.2.2)) /\ (x13 = x13 /\ Rf x11.2.2) /\ (Rf (↑((2 : Nat) ^ x6.2.2 - 1) : Int)) /\ (Rf (↑((2 : Nat) ^ (x6.2.1 - x6.2.2) - 1) : Int)) /\ Rf (x6.2.2 : Int) /\ Rf (x6.1 : Int) /\ Rf (↑(List.length lens) : Int) /\ (x5 = x5 /\ ints (fillAt (nats (ints x20.2.1)) 0 ((2 : Nat) ^ List.getD lens x20.1 0) (cval lens x20.1) (x20.1 * 32 + List.getD lens x20.1 0) x24) = ints x25.2.1) /\ (x13 = x13 /\ Rf x18.2) /\ (x16 = x16 /\ ints x20.2.2 = ints x25.2.2) /\ True))) (db = db /\ x22 = x22 /\ db = db /\ x5 = x5 /\ (inRange (bitI BinOp.and IntKind.u32 x21.val (↑((2 : Nat) ^ x6.2.2 - 1) : Int)) (List.length (ints x20.2.1))) /\ x5 = x5 /\ (Int.toNat (bitI BinOp.and IntKind.u32 x21.val (↑((2 : Nat) ^ x6.2.2 - 1) : Int)) < List.length (ints x20.2.1)) /\ ∀ x23 : Int, (((ints x20.2.1)[Int.toNat (bitI BinOp.and IntKind.u32 x21.val (↑((2 : Nat) ^ x6.2.2 - 1) : Int))]? = some x23) -> (0 : Int) <= (5 : Int) /\ db = db /\ x13 = x13 /\ inRange (shrI IntKind.u32 x23 (5 : Int)) x18.2.length /\ x13 = x13 /\ Int.toNat (shrI IntKind.u32 x23 (5 : Int)) < x18.2.length /\ ∀ x24 : Sl, ((x18.2[Int.toNat (shrI IntKind.u32 x23 (5 : Int))]? = some x24) -> x22 = x22 /\ db = db /\ (0 : Int) <= IntKind.wrap IntKind.u64 (IntKind.wrap IntKind.u32 (x21.len - (x6.2.2 : Int))) /\ x22 = x22 /\ db = db /\ (0 : Int) <= (x6.2.2 : Int) /\ inI64 (shrI IntKind.u32 x21.val (x6.2.2 : Int)) /\ ∃ x25 : Nat, (x25 % (2 : Nat) ^ (List.getD lens x20.1 0 - x6.2.2) = cval lens x20.1 / (2 : Nat) ^ x6.2.2 /\ x25 < (2 : Nat) ^ (x6.2.1 - x6.2.2) + (2 : Nat) ^ (List.getD lens x20.1 0 - x6.2.2)) /\ bitI BinOp.or IntKind.u32 (shlI IntKind.u32 x21.sym (5 : Int)) x21.len = (↑(x20.1 * 32 + List.getD lens x20.1 0) : Int) /\ (Value.slice x24.A x24.n x24.cap = sliceVal x16 (lkAt lens (nats (ints x20.2.1)) x20.1 x6.2.2 * (2 : Nat) ^ (x6.2.1 - x6.2.2)) ((lkAt lens (nats (ints x20.2.1)) x20.1 x6.2.2 + 1) * (2 : Nat) ^ (x6.2.1 - x6.2.2)) 1 /\ x24.n = (2 : Nat) ^ (x6.2.1 - x6.2.2)) /\ (shlI IntKind.i64 (1 : Int) (IntKind.wrap IntKind.u64 (IntKind.wrap IntKind.u32 (x21.len - (x6.2.2 : Int)))) = (↑((2 : Nat) ^ (List.getD lens x20.1 0 - x6.2.2)) : Int)) /\ shrI IntKind.u32 x21.val (x6.2.2 : Int) = (x25 : Int) /\ m = m /\ relLe rel rel /\ db = db /\ (x5 = x5 /\ Rf ((2 : Nat) ^ x6.2.2)) /\ (x13 = x13 /\ Rf x11.2.2) /\ (Rf (↑((2 : Nat) ^ x6.2.2 - 1) : Int)) /\ (Rf (↑((2 : Nat) ^ (x6.2.1 - x6.2.2) - 1) : Int)) /\ Rf (x6.2.2 : Int) /\ Rf (x6.1 : Int) /\ Rf (↑(List.length lens) : Int) /\ (x5 = x5 /\ Rf (ints x20.2.1)) /\ (x13 = x13 /\ Rf x18.2) /\
 (x16 = x16 /\ ints x20.2.2 = ints (fillAt (nats (ints x20.2.2)) (lkAt lens (nats (ints x20.2.1)) x20.1 x6.2.2 * (2 : Nat) ^ (x6.2.1 - x6.2.2)) ((2 : Nat) ^ (List.getD lens x20.1 0 - x6.2.2)) (cval lens x20.1 / (2 : Nat) ^ x6.2.2) (x20.1 * 32 + List.getD lens x20.1 0) x25)) /\ x22 = x22 /\ Rf x21.sym /\ Rf x21.cnt /\ Rf x21.len /\ Rf x21.val /\ ∀ x26 : Nat, ((x26 % (2 : Nat) ^ (List.getD lens x20.1 0 - x6.2.2) = cval lens x20.1 / (2 : Nat) ^ x6.2.2 /\ x26 < (2 : Nat) ^ (x6.2.1 - x6.2.2) + (2 : Nat) ^ (List.getD lens x20.1 0 - x6.2.2)) -> Br (decide ((x26 : Int) < (↑((2 : Nat) ^ (x6.2.1 - x6.2.2)) : Int))) (∃ x27 : Nat × Nat, (sliceVal x16 (lkAt lens (nats (ints x20.2.1)) x20.1 x6.2.2 * (2 : Nat) ^ (x6.2.1 - x6.2.2)) ((lkAt lens (nats (ints x20.2.1)) x20.1 x6.2.2 + 1) * (2 : Nat) ^ (x6.2.1 - x6.2.2)) 1 = sliceVal x16 x27.1 x27.2 1 /\ x27.1 <= x27.2 /\ x27.2 <= List.length (ints (fillAt (nats (ints x20.2.2)) (lkAt lens (nats (ints x20.2.1)) x20.1 x6.2.2 * (2 : Nat) ^ (x6.2.1 - x6.2.2)) ((2 : Nat) ^ (List.getD lens x20.1 0 - x6.2.2)) (cval lens x20.1 / (2 : Nat) ^ x6.2.2) (x20.1 * 32 + List.getD lens x20.1 0) x26))) /\ inRange (x26 : Int) (x27.2 - x27.1) /\ (x16 = x16 /\ x27.1 + x26 < List.length (ints (fillAt (nats (ints x20.2.2)) (lkAt lens (nats (ints x20.2.1)) x20.1 x6.2.2 * (2 : Nat) ^ (x6.2.1 - x6.2.2)) ((2 : Nat) ^ (List.getD lens x20.1 0 - x6.2.2)) (cval lens x20.1 / (2 : Nat) ^ x6.2.2) (x20.1 * 32 + List.getD lens x20.1 0) x26))) /\ (inI64 ((x26 : Int) + (↑((2 : Nat) ^ (List.getD lens x20.1 0 - x6.2.2)) : Int))) /\ ∃ x28 : Nat, ((x28 % (2 : Nat) ^ (List.getD lens x20.1 0 - x6.2.2) = cval lens x20.1 / (2 : Nat) ^ x6.2.2 /\ x28 < (2 : Nat) ^ (x6.2.1 - x6.2.2) + (2 : Nat) ^ (List.getD lens x20.1 0 - x6.2.2)) /\ (2 : Nat) ^ (x6.2.1 - x6.2.2) + (2 : Nat) ^ (List.getD lens x20.1 0 - x6.2.2) - x28 < (2 : Nat) ^ (x6.2.1 - x6.2.2) + (2 : Nat) ^ (List.getD lens x20.1 0 - x6.2.2) - x26) /\ Rf (↑(x20.1 * 32 + List.getD lens x20.1 0) : Int) /\ (Rf (sliceVal x16 (lkAt lens (nats (ints x20.2.1)) x20.1 x6.2.2 * (2 : Nat) ^ (x6.2.1 - x6.2.2)) ((lkAt lens (nats (ints x20.2.1)) x20.1 x6.2.2 + 1) * (2 : Nat) ^ (x6.2.1 - x6.2.2)) 1) /\ Rf ((2 : Nat) ^ (x6.2.1 - x6.2.2))) /\ (Rf (↑((2 : Nat) ^ (List.getD lens x20.1 0 - x6.2.2)) : Int)) /\ ((x26 : Int) + (↑((2 : Nat) ^ (List.getD lens x20.1 0 - x6.2.2)) : Int) = (x28 : Int)) /\ m = m /\ relLe rel rel /\ db = db /\ (x5 = x5 /\ Rf ((2 : Nat) ^ x6.2.2)) /\ (x13 = x13 /\ Rf x11.2.2) /\ (Rf (↑((2 : Nat) ^ x6.2.2 - 1) : Int)) /\ (Rf (↑((2 : Nat) ^ (x6.2.1 - x6.2.2) - 1) : Int)) /\ Rf (x6.2.2 : Int) /\ Rf (x6.1 : Int) /\ Rf (↑(List.length lens) : Int) /\ (x5 = x5 /\ Rf (ints x20.2.1)) /\ (x13 = x13 /\ Rf x18.2) /\
 (x16 = x16 /\ List.set (ints (fillAt (nats (ints x20.2.2)) (lkAt lens (nats (ints x20.2.1)) x20.1 x6.2.2 * (2 : Nat) ^ (x6.2.1 - x6.2.2)) ((2 : Nat) ^ (List.getD lens x20.1 0 - x6.2.2)) (cval lens x20.1 / (2 : Nat) ^ x6.2.2) (x20.1 * 32 + List.getD lens x20.1 0) x26)) (x27.1 + x26) (↑(x20.1 * 32 + List.getD lens x20.1 0) : Int) = ints (fillAt (nats (ints x20.2.2)) (lkAt lens (nats (ints x20.2.1)) x20.1 x6.2.2 * (2 : Nat) ^ (x6.2.1 - x6.2.2)) ((2 : Nat) ^ (List.getD lens x20.1 0 - x6.2.2)) (cval lens x20.1 / (2 : Nat) ^ x6.2.2) (x20.1 * 32 + List.getD lens x20.1 0) x28)) /\ x22 = x22 /\ Rf x21.sym /\ Rf x21.cnt /\ Rf x21.len /\ Rf x21.val /\ True) (inI64 ((x20.1 : Int) + (1 : Int)) /\ ∃ x27 : Nat × List Nat × List Nat, ((x27.1 <= List.length lens /\ tabs lens x6.2.2 (x6.2.1 - x6.2.2) (nats (ints x11.2.1)) x27.1 x27.2.1 x27.2.2 /\ x27.2.2.length = List.length (ints (List.replicate (Int.toNat ((↑((2 : Nat) ^ (x6.2.1 - x6.2.2)) : Int) * (x11.2.2 : Int))) 0))) /\ List.length lens - x27.1 < List.length lens - x20.1) /\ (x20.1 : Int) + (1 : Int) = (x27.1 : Int) /\ m = m /\ relLe rel rel /\ db = db /\ (x5 = x5 /\ Rf ((2 : Nat) ^ x6.2.2)) /\ (x13 = x13 /\ Rf x11.2.2) /\ (Rf (↑((2 : Nat) ^ x6.2.2 - 1) : Int)) /\ (Rf (↑((2 : Nat) ^ (x6.2.1 - x6.2.2) - 1) : Int)) /\ Rf (x6.2.2 : Int) /\ Rf (x6.1 : Int) /\ Rf (↑(List.length lens) : Int) /\ (x5 = x5 /\ ints x20.2.1 = ints x27.2.1) /\ (x13 = x13 /\ Rf x18.2) /\ (x16 = x16 /\ ints (fillAt (nats (ints x20.2.2)) (lkAt lens (nats (ints x20.2.1)) x20.1 x6.2.2 * (2 : Nat) ^ (x6.2.1 - x6.2.2)) ((2 : Nat) ^ (List.getD lens x20.1 0 - x6.2.2)) (cval lens x20.1 / (2 : Nat) ^ x6.2.2) (x20.1 * 32 + List.getD lens x20.1 0) x26) = ints x27.2.2) /\ True))))))) ((x5 = x5 /\ (2 : Nat) ^ x6.2.2 = List.length (ints x20.2.1)) /\ (x13 = x13 /\ x11.2.2 = x18.2.length) /\ db = db /\ ∃ x21 : DC × Rel TT, (relLe rel x21.2 /\ decOK x21.2 lens x21.1) /\ m = m /\ relLe x21.2 (relAdd rel 43 x16 (ints x20.2.2)) /\ db = db /\ (x5 = x21.1.cv /\ ints x20.2.1 = ints x21.1.ch) /\ (x13 = x21.1.lv /\ x18.2 = x21.1.lk) /\ ((↑((2 : Nat) ^ x6.2.2 - 1) : Int) = (x21.1.cm : Int)) /\ ((↑((2 : Nat) ^ (x6.2.1 - x6.2.2) - 1) : Int) = (x21.1.lm : Int)) /\ (x6.2.2 : Int) = (x21.1.cb : Int) /\ (x6.1 : Int) = (x21.1.mb : Int) /\ (↑(List.length lens) : Int) = (x21.1.ns : Int) /\ True)))))))))))))) (∃ x7 : Nat × List Nat, (x7.1 <= List.length lens /\ tabs lens x6.2.2 0 (nats (ints (List.replicate ((2 : Nat) ^ x6.2.2) 0))) x7.1 x7.2 []) /\ (0 : Int) = (x7.1 : Int) /\ m = m /\ relLe rel rel /\ db = db /\ (x5 = x5 /\ Rf ((2 : Nat) ^ x6.2.2)) /\ Rn /\ (Rf (↑((2 : Nat) ^ x6.2.2 - 1) : Int)) /\ Rz /\ Rf (x6.2.2 : Int) /\ Rf (x6.1 : Int) /\ Rf (↑(List.length lens) : Int) /\ (x5 = x5 /\ ints (List.replicate ((2 : Nat) ^ x6.2.2) 0) = ints x7.2) /\ ∀ x8 : Nat × List Nat, ((x8.1 <= List.length lens /\ tabs lens x6.2.2 0 (nats (ints (List.replicate ((2 : Nat) ^ x6.2.2) 0))) x8.1 x8.2 []) -> Br (decide ((x8.1 : Int) < (↑(List.length (canonL lens)) : Int))) (inRange (x8.1 : Int) (List.length (canonL lens)) /\ x8.1 < List.length (canonL lens) /\
 ∀ x9 : Cd, (((canonL lens)[x8.1]? = some x9) -> ∀ x10 : Nat, x10 = x10 /\ x10 = x10 /\ (0 : Int) <= (5 : Int) /\ x10 = x10 /\ x10 = x10 /\ db = db /\ Br (decide (x9.len <= (x6.2.2 : Int))) (x10 = x10 /\ (0 : Int) <= IntKind.wrap IntKind.u64 x9.len /\ x10 = x10 /\ inI64 x9.val /\ ∃ x11 : Nat, (x11 % (2 : Nat) ^ List.getD lens x8.1 0 = cval lens x8.1 /\ x11 < List.length (nats (ints x8.2)) + (2 : Nat) ^ List.getD lens x8.1 0) /\ bitI BinOp.or IntKind.u32 (shlI IntKind.u32 x9.sym (5 : Int)) x9.len = (↑(x8.1 * 32 + List.getD lens x8.1 0) : Int) /\ (shlI IntKind.i64 (1 : Int) (IntKind.wrap IntKind.u64 x9.len) = (↑((2 : Nat) ^ List.getD lens x8.1 0) : Int)) /\ x9.val = (x11 : Int) /\ m = m /\ relLe rel rel /\ db = db /\ (x5 = x5 /\ Rf ((2 : Nat) ^ x6.2.2)) /\ Rn /\ (Rf (↑((2 : Nat) ^ x6.2.2 - 1) : Int)) /\ Rz /\ Rf (x6.2.2 : Int) /\ Rf (x6.1 : Int) /\ Rf (↑(List.length lens) : Int) /\ (x5 = x5 /\ ints x8.2 = ints (fillAt (nats (ints x8.2)) 0 ((2 : Nat) ^ List.getD lens x8.1 0) (cval lens x8.1) (x8.1 * 32 + List.getD lens x8.1 0) x11)) /\ x10 = x10 /\ Rf x9.sym /\ Rf x9.cnt /\ Rf x9.len /\ Rf x9.val /\ ∀ x12 : Nat, ((x12 % (2 : Nat) ^ List.getD lens x8.1 0 = cval lens x8.1 /\ x12 < List.length (nats (ints x8.2)) + (2 : Nat) ^ List.getD lens x8.1 0) -> db = db /\ Br (decide ((x12 : Int) < (↑((2 : Nat) ^ x6.2.2) : Int))) (db = db /\ x5 = x5 /\ inRange (x12 : Int) (List.length (ints (fillAt (nats (ints x8.2)) 0 ((2 : Nat) ^ List.getD lens x8.1 0) (cval lens x8.1) (x8.1 * 32 + List.getD lens x8.1 0) x12))) /\ (x5 = x5 /\ x12 < List.length (ints (fillAt (nats (ints x8.2)) 0 ((2 : Nat) ^ List.getD lens x8.1 0) (cval lens x8.1) (x8.1 * 32 + List.getD lens x8.1 0) x12))) /\ (inI64 ((x12 : Int) + (↑((2 : Nat) ^ List.getD lens x8.1 0) : Int))) /\ ∃ x13 : Nat, ((x13 % (2 : Nat) ^ List.getD lens x8.1 0 = cval lens x8.1 /\ x13 < List.length (nats (ints x8.2)) + (2 : Nat) ^ List.getD lens x8.1 0) /\ List.length (nats (ints x8.2)) + (2 : Nat) ^ List.getD lens x8.1 0 - x13 < List.length (nats (ints x8.2)) + (2 : Nat) ^ List.getD lens x8.1 0 - x12) /\ Rf (↑(x8.1 * 32 + List.getD lens x8.1 0) : Int) /\ (Rf (↑((2 : Nat) ^ List.getD lens x8.1 0) : Int)) /\ ((x12 : Int) + (↑((2 : Nat) ^ List.getD lens x8.1 0) : Int) = (x13 : Int)) /\ m = m /\ relLe rel rel /\ db = db /\ (x5 = x5 /\ Rf ((2 : Nat) ^ x6.2.2)) /\ Rn /\ (Rf (↑((2 : Nat) ^ x6.2.2 - 1) : Int)) /\ Rz /\ Rf (x6.2.2 : Int) /\ Rf (x6.1 : Int) /\ Rf (↑(List.length lens) : Int) /\ (x5 = x5 /\ List.set (ints (fillAt (nats (ints x8.2)) 0 ((2 : Nat) ^ List.getD lens x8.1 0) (cval lens x8.1) (x8.1 * 32 + List.getD lens x8.1 0) x12)) x12 (↑(x8.1 * 32 + List.getD lens x8.1 0) : Int) = ints (fillAt (nats (ints x8.2)) 0 ((2 : Nat) ^ List.getD lens x8.1 0) (cval lens x8.1) (x8.1 * 32 + List.getD lens x8.1 0) x13)) /\ x10 = x10 /\ Rf x9.sym /\ Rf x9.cnt /\ Rf x9.len /\ Rf x9.val /\ True) (inI64 ((x8.1 : Int) + (1 : Int)) /\
 ∃ x13 : Nat × List Nat, ((x13.1 <= List.length lens /\ tabs lens x6.2.2 0 (nats (ints (List.replicate ((2 : Nat) ^ x6.2.2) 0))) x13.1 x13.2 []) /\ List.length lens - x13.1 < List.length lens - x8.1) /\ (x8.1 : Int) + (1 : Int) = (x13.1 : Int) /\ m = m /\ relLe rel rel /\ db = db /\ (x5 = x5 /\ Rf ((2 : Nat) ^ x6.2.2)) /\ Rn /\ (Rf (↑((2 : Nat) ^ x6.2.2 - 1) : Int)) /\ Rz /\ Rf (x6.2.2 : Int) /\ Rf (x6.1 : Int) /\ Rf (↑(List.length lens) : Int) /\ (x5 = x5 /\ ints (fillAt (nats (ints x8.2)) 0 ((2 : Nat) ^ List.getD lens x8.1 0) (cval lens x8.1) (x8.1 * 32 + List.getD lens x8.1 0) x12) = ints x13.2) /\ True))) (db = db /\ x10 = x10 /\ db = db /\ x5 = x5 /\ (inRange (bitI BinOp.and IntKind.u32 x9.val (↑((2 : Nat) ^ x6.2.2 - 1) : Int)) (List.length (ints x8.2))) /\ x5 = x5 /\ (Int.toNat (bitI BinOp.and IntKind.u32 x9.val (↑((2 : Nat) ^ x6.2.2 - 1) : Int)) < List.length (ints x8.2)) /\ ∀ x11 : Int, (((ints x8.2)[Int.toNat (bitI BinOp.and IntKind.u32 x9.val (↑((2 : Nat) ^ x6.2.2 - 1) : Int))]? = some x11) -> (0 : Int) <= (5 : Int) /\ db = db /\ False /- "index: of what?" -/)))) ((x5 = x5 /\ (2 : Nat) ^ x6.2.2 = List.length (ints x8.2)) /\ db = db /\ ∃ x9 : DC × Rel TT, (relLe rel x9.2 /\ decOK x9.2 lens x9.1) /\ m = m /\ relLe x9.2 rel /\ db = db /\ (x5 = x9.1.cv /\ ints x8.2 = ints x9.1.ch) /\ (Rn /\ Value.slice none 0 0 = x9.1.lv /\ x9.1.lk = []) /\ ((↑((2 : Nat) ^ x6.2.2 - 1) : Int) = (x9.1.cm : Int)) /\ (0 : Int) = (x9.1.lm : Int) /\ (x6.2.2 : Int) = (x9.1.cb : Int) /\ (x6.1 : Int) = (x9.1.mb : Int) /\ (↑(List.length lens) : Int) = (x9.1.ns : Int) /\ True)))))))))))
noncomputable def law_c100 (G : Gl) (m : Fz) (rel : Rel TT) (db : Nat) (cv : Value) (lens : List Nat) : VCT := fnx (CD G) (IND G b100 NA) (a100 db lens) Tryz.f100 (c100.args ⟨m, rel, db, cv, lens⟩) (c100.H ⟨m, rel, db, cv, lens⟩) (outB [2] true 3 (c100.ret ⟨m, rel, db, cv, lens⟩)) (c100.pan ⟨m, rel, db, cv, lens⟩)
theorem eq_c100 (G : Gl) (m : Fz) (rel : Rel TT) (db : Nat) (cv : Value) (lens : List Nat) : cond_c100 G m rel db cv lens = (law_c100 G m rel db cv lens).den := by kernel_rfl
theorem ok_c100 (G : Gl) (m : Fz) (rel : Rel TT) (db : Nat) (cv : Value) (lens : List Nat) (hg : Good lens) : cond_c100 G m rel db cv lens := by
 unfold cond_c100
 have hl := hg.two
 have h60 := hg.sixty
 have e3 : ∀ l : List Nat, nats (ints l) = l := nats_ints
 simp only [e3, br_d, br_i, rel_self, true_and, and_true, inRange, inI64, Int.toNat_natCast, ints_len, canonL_len, List.length_replicate, and_self]
 refine ⟨fun h1 => absurd h1 (by omega), fun _ => ⟨(0, 27, 0), ⟨Nat.zero_le _, mm_zero lens⟩, rfl, rfl, rfl, ?_⟩⟩
 rintro ⟨i, mn, mx⟩ ⟨hi, hmm⟩
 dsimp only at hi hmm ⊢
 refine ⟨fun h1 => ?_, fun h1 => ?_⟩
 . refine ⟨by omega, by omega, fun c hc _ => ?_⟩
   obtain ⟨hi', rfl⟩ := canon_at hc
   dsimp only
   refine ⟨fun h2 => ⟨fun h3 => ⟨by omega, (i + 1, lens.getD i 0, lens.getD i 0), ⟨⟨hi', mm_step hg hmm hi' (by dsimp only; omega) (by dsimp only; omega)⟩, by dsimp only; omega⟩, rfl, rfl, rfl⟩,
       fun h3 => ⟨by omega, (i + 1, lens.getD i 0, mx), ⟨⟨hi', mm_step hg hmm hi' (by dsimp only; omega) (by dsimp only; omega)⟩, by dsimp only; omega⟩, rfl, rfl, rfl⟩⟩,
     fun h2 => ⟨fun h3 => ⟨by omega, (i + 1, mn, lens.getD i 0), ⟨⟨hi', mm_step hg hmm hi' (by dsimp only; omega) (by dsimp only; omega)⟩, by dsimp only; omega⟩, rfl, rfl, rfl⟩,
       fun h3 => ⟨by omega, (i + 1, mn, mx), ⟨⟨hi', mm_step hg hmm hi' (by dsimp only; omega) (by dsimp only; omega)⟩, by dsimp only; omega⟩, rfl, rfl, rfl⟩⟩⟩
 obtain rfl : i = lens.length := by omega
 clear hi h1
 refine ⟨⟨fun h1 => ⟨9, by omega, rfl⟩, fun h1 => ⟨mx, by omega, rfl⟩⟩, ?_⟩
 intro cb hcb
 have hcb9 : cb <= 9 := by omega
 have p9 : (2 : Nat) ^ cb <= 2 ^ 9 := Nat.pow_le_pow_right (by decide) hcb9
 have p0 : 0 < (2 : Nat) ^ cb := Nat.pow_pos (by decide)
 simp only [shl1 (show cb <= 62 by omega), Int.toNat_natCast]
 refine ⟨by omega, fun m2 => ⟨⟨p0, by omega⟩, trivial, fun cx _ => ⟨⟨by omega, (mn, mx, cb), ⟨hmm, hcb⟩, rfl, rfl, ?_, rfl, rfl, w32 (by omega), rfl⟩, ?_⟩⟩⟩
 . dsimp only
   rw [show ((2 ^ cb : Nat) : Int) - 1 = ((2 ^ cb - 1 : Nat) : Int) by omega]
   exact w32 (by omega)
 clear hcb hmm hcb9 p9 p0
 clear cb mn mx
 rintro ⟨mn, mx, cb⟩ ⟨hmm, hcb⟩
 dsimp only at hmm hcb ⊢
 obtain ⟨hmx1, hall, jm, hjm, hjmx⟩ := mm_end hg hmm
 have hmx20 := hmm.hi
 have hmn := hmm.lo
 have hcb9 : cb <= 9 := by omega
 have p9 : (2 : Nat) ^ cb <= 2 ^ 9 := Nat.pow_le_pow_right (by decide) hcb9
 have p0 : 0 < (2 : Nat) ^ cb := Nat.pow_pos (by decide)
 refine ⟨fun hlt => ?_, fun hge => ?_⟩
 . have hlt : cb < mx := by omega
   obtain ⟨lb, hlb⟩ : ∃ lb, mx = cb + lb := ⟨mx - cb, by omega⟩
   have hlb11 : lb <= 11 := by omega
   have e1 : mx - cb = lb := by omega
   simp only [w32s (Nat.le_of_lt hlt) (show mx < 2 ^ 32 by omega), e1, shl1 (show lb <= 62 by omega)]
   have q9 : (2 : Nat) ^ lb <= 2 ^ 11 := Nat.pow_le_pow_right (by decide) hlb11
   have q0 : 0 < (2 : Nat) ^ lb := Nat.pow_pos (by decide)
   refine ⟨by omega, ⟨by omega, (), trivial, ?_⟩, fun _ _ => ⟨0, Nat.zero_le _, rfl, fun z hz => ⟨fun h1 => ?_, fun h1 => ?_⟩⟩⟩
   . rw [show ((2 ^ lb : Nat) : Int) - 1 = ((2 ^ lb - 1 : Nat) : Int) by omega]
     exact w32 (by omega)
   . exact ⟨by omega, by omega, by omega, z + 1, by omega, rfl, zeros_set _ _⟩
   clear h1 hz
   refine ⟨(0, List.replicate (2 ^ cb) 0, 0), ⟨Nat.zero_le _, link_zero lens cb⟩, rfl, rfl, rfl, ?_⟩
   rintro ⟨i, L, n⟩ ⟨hi, hL⟩
   dsimp only at hi hL ⊢
   have hn := hL.le
   have hLl := hL.len
   refine ⟨fun h1 => ?_, fun h1 => ?_⟩
   . refine ⟨by omega, by omega, fun c hc _ => ?_⟩
     obtain ⟨hi', rfl⟩ := canon_at hc
     dsimp only
     have hv := cval_small hg hi'
     simp only [maskC (show cval lens i < 2 ^ 32 by omega) hcb9, Int.toNat_natCast]
     have hq : cval lens i % 2 ^ cb < 2 ^ cb := Nat.mod_lt _ p0
     refine ⟨fun h2 => ⟨by omega, by omega, fun w hw => ?_⟩, fun h2 => ⟨by omega, (i + 1, L, n), ⟨⟨hi', link_skip hL (fun h3 => h2 (by omega))⟩, by dsimp only; omega⟩, rfl, rfl, rfl⟩⟩
     obtain ⟨_, rfl⟩ := ints_getD hw
     refine ⟨fun h3 => ⟨by decide, by omega, by omega, by omega, (i + 1, L.set (cval lens i % 2 ^ cb) (n * 32 + (cb + 1)), n + 1), ⟨⟨hi', link_new hL (Int.ofNat.inj h3)⟩, by dsimp only; omega⟩, rfl, ?_, ?_⟩, fun h3 => ⟨by omega, (i + 1, L, n), ⟨⟨hi', link_skip hL (fun h4 => h3 (congrArg Int.ofNat h4.2))⟩, by dsimp only; omega⟩, rfl, rfl, rfl⟩⟩
     . exact w32 (n := n + 1) (by omega)
     . rw [show IntKind.u32.wrap ((cb : Int) + 1) = ((cb + 1 : Nat) : Int) from w32 (n := cb + 1) (by omega), chunkN (by omega) (by omega)]
       exact ints_set _ _ _
   obtain rfl : i = lens.length := by omega
   clear hi h1
   have hn0 : 0 < n := by
     obtain ⟨k, hk, _⟩ := hL.val _ (hL.ex jm hjm (by omega))
     omega
   have hnl : 2 ^ lb * n <= 2 ^ 11 * 60 := Nat.mul_le_mul q9 (by omega)
   have hnl0 : 0 < 2 ^ lb * n := Nat.mul_pos q0 hn0
   have e2 : ((2 ^ lb : Nat) : Int) * (n : Int) = ((2 ^ lb * n : Nat) : Int) := by rw [Int.natCast_mul]
   simp only [e2, Int.toNat_natCast]
   refine ⟨by omega, fun _ => ⟨by omega, fun lx _ => ⟨by omega, hn0, fun sl hsl => ⟨by omega, by omega, fun _ => ⟨by omega, ?_, trivial, fun fx _ => ?_⟩⟩⟩⟩⟩
   . have : sl = slN := by
       rw [List.getElem?_replicate, if_pos hn0] at hsl
       exact (Option.some.inj hsl).symm
     subst this
     exact ⟨rfl, rfl⟩
   clear hsl sl
   refine ⟨(0, List.replicate n slN), ⟨Nat.zero_le _, ⟨List.length_replicate, fun s hs => by omega⟩⟩, rfl, by simp, rfl, ?_⟩
   rintro ⟨t, lk⟩ ⟨ht, hlk⟩
   dsimp only at ht hlk ⊢
   have hlkl := hlk.len
   refine ⟨fun h1 => ?_, fun h1 => ?_⟩
   . have ht1 : (t + 1) * 2 ^ lb <= n * 2 ^ lb := Nat.mul_le_mul_right _ (by omega)
     rw [Nat.mul_comm n] at ht1
     have e4 : ((t * 2 ^ lb : Nat) : Int) + ((2 ^ lb : Nat) : Int) = (((t + 1) * 2 ^ lb : Nat) : Int) := by rw [Nat.add_mul, Nat.one_mul, Int.natCast_add]
     have e5 : (t + 1) * 2 ^ lb - t * 2 ^ lb = 2 ^ lb := by rw [Nat.add_mul, Nat.one_mul, Nat.add_sub_cancel_left]
     have e6 : t * 2 ^ lb <= (t + 1) * 2 ^ lb := Nat.mul_le_mul_right _ (by omega)
     simp only [e4, Int.toNat_natCast, e5]
     refine ⟨by omega, by omega, by omega, fun A c hA => ⟨by omega, by omega, by omega, (t + 1, lk.set t ⟨A, 2 ^ lb, c⟩), ⟨⟨by dsimp only; omega, ⟨by rw [List.length_set]; exact hlkl, fun s hs => ?_⟩⟩, by dsimp only; omega⟩, rfl, rfl, rfl⟩⟩
     by_cases e : s = t
     . subst e
       exact ⟨⟨A, 2 ^ lb, c⟩, by rw [List.getElem?_set, if_pos rfl, if_pos (by omega)], hA.symm, rfl⟩
     . obtain ⟨sl, h2, h3, h4⟩ := hlk.at_ s (by omega)
       exact ⟨sl, by rw [List.getElem?_set, if_neg (by omega)]; exact h2, h3, h4⟩
   obtain rfl : t = n := by omega
   clear ht h1
   refine ⟨(0, L, List.replicate (2 ^ lb * t) 0), ⟨Nat.zero_le _, tabs_zero hLl, List.length_replicate⟩, rfl, rfl, rfl, ?_⟩
   rintro ⟨i, C, F⟩ ⟨hi, hT, hF⟩
   dsimp only at hi hT hF ⊢
   have hCl := hT.len
   refine ⟨fun h1 => ?_, fun h1 => ?_⟩
   . refine ⟨by omega, by omega, fun c hc _ => ?_⟩
     obtain ⟨hi', rfl⟩ := canon_at hc
     dsimp only
     have hv := cval_small hg hi'
     have hlt2 := cval_lt lens i
     have hlp := hg.pos _ (getD_mem hi')
     have hle : lens.getD i 0 <= mx := (hmm.all i hi').2
     have hcl := cval_cl hg hi'
     have hcd := cval_cd hg hi'
     have hch := cval_hit lens i
     have hq : cval lens i % 2 ^ cb < 2 ^ cb := Nat.mod_lt _ p0
     simp only [w64 (show lens.getD i 0 < 2 ^ 64 by omega), chunkN (show i <= 60 by omega) hlp.2, shl1 (show lens.getD i 0 <= 62 by omega), maskC (show cval lens i < 2 ^ 32 by omega) hcb9, Int.toNat_natCast, fillAt_len, true_and]
     refine ⟨by decide, fun h2 => ?_, fun h2 => ?_⟩
     . have hle2 : lens.getD i 0 <= cb := by omega
       have r9 : (2 : Nat) ^ lens.getD i 0 <= 2 ^ 20 := Nat.pow_le_pow_right (by decide) hlp.2
       refine ⟨by omega, by omega, cval lens i, ⟨Nat.mod_eq_of_lt hlt2, by omega⟩, rfl, congrArg ints (fillAt_zero hlt2).symm, fun j hj => ⟨fun h3 => ⟨by omega, by omega, by omega, j + 2 ^ lens.getD i 0, ⟨⟨by rw [Nat.add_mod_right]; exact hj.1, by omega⟩, by omega⟩, by rw [Int.natCast_add], ?_⟩, fun h3 => ⟨by omega, (i + 1, fillAt C 0 (2 ^ lens.getD i 0) (cval lens i) (i * 32 + lens.getD i 0) j, F), ⟨⟨hi', tabs_short hg hT hi' hle2 (j := j) (by omega), hF⟩, by dsimp only; omega⟩, rfl, rfl, rfl⟩⟩⟩
       have := fillAt_step (C := C) (off := 0) (ch := i * 32 + lens.getD i 0) hlt2 hj.1 (by omega)
       rw [Nat.zero_add] at this
       rw [ints_set, this]
     . have hlt3 : cb < lens.getD i 0 := by omega
       refine ⟨by omega, by omega, fun w hw => ?_⟩
       obtain ⟨_, rfl⟩ := ints_getD hw
       have hp := hT.ptr (cval lens i) (by omega)
       obtain ⟨k, hk, hk2⟩ := hL.val (cval lens i % 2 ^ cb) (hL.ex i hi' hlt3)
       have hCk : C.getD (cval lens i % 2 ^ cb) 0 = k * 32 + (cb + 1) := by
         rw [List.getD_eq_getElem?_getD, hp, <- List.getD_eq_getElem?_getD]; exact hk2
       have hK : lkAt lens C i cb = k := by unfold lkAt; omega
       have hC5 : C.getD (cval lens i % 2 ^ cb) 0 / 32 = k := by omega
       simp only [shr5, hC5, hK, Int.toNat_natCast, w32s (Nat.le_of_lt hlt3) (show lens.getD i 0 < 2 ^ 32 by omega), w64 (show lens.getD i 0 - cb < 2 ^ 64 by omega), shl1 (show lens.getD i 0 - cb <= 62 by omega), shr32 (show cb <= 32 by omega), true_and]
       have hdv : cval lens i / 2 ^ cb < 2 ^ (lens.getD i 0 - cb) := by
         refine Nat.div_lt_of_lt_mul ?_
         rw [<- Nat.pow_add, show cb + (lens.getD i 0 - cb) = lens.getD i 0 by omega]
         exact hlt2
       have hdle : cval lens i / 2 ^ cb <= cval lens i := Nat.div_le_self _ _
       have r9 : (2 : Nat) ^ (lens.getD i 0 - cb) <= 2 ^ 20 := Nat.pow_le_pow_right (by decide) (by omega)
       have hk1 : (k + 1) * 2 ^ lb <= t * 2 ^ lb := Nat.mul_le_mul_right _ (by omega)
       rw [Nat.mul_comm t] at hk1
       have hk3 : (k + 1) * 2 ^ lb = k * 2 ^ lb + 2 ^ lb := by rw [Nat.add_mul, Nat.one_mul]
       have hdi : (0 : Int) <= ((cval lens i / 2 ^ cb : Nat) : Int) := Int.natCast_nonneg _
       have hkn : (lkAt lens C i cb) = L.getD (cval lens i % 2 ^ cb) 0 / 32 := by rw [hK]; omega
       refine ⟨by decide, by omega, by omega, fun sl hsl => ⟨by omega, by omega, by omega, cval lens i / 2 ^ cb, ⟨Nat.mod_eq_of_lt hdv, by omega⟩, ?_, rfl, congrArg ints (fillAt_zero hdv).symm, fun j hj => ⟨fun h3 => ⟨(k * 2 ^ lb, (k + 1) * 2 ^ lb), ⟨rfl, by dsimp only; omega, by dsimp only; omega⟩, by dsimp only; omega, by dsimp only; omega, by omega, j + 2 ^ (lens.getD i 0 - cb), ⟨⟨by rw [Nat.add_mod_right]; exact hj.1, by omega⟩, by omega⟩, by rw [Int.natCast_add], ?_⟩, fun h3 => ⟨by omega, (i + 1, C, fillAt F (k * 2 ^ lb) (2 ^ (lens.getD i 0 - cb)) (cval lens i / 2 ^ cb) (i * 32 + lens.getD i 0) j), ⟨⟨hi', ?_, by dsimp only; rw [fillAt_len]; exact hF⟩, by dsimp only; omega⟩, rfl, rfl, rfl⟩⟩⟩⟩
       . obtain ⟨sl', g1, g2, g3⟩ := hlk.at_ k hk
         obtain rfl : sl' = sl := Option.some.inj (g1.symm.trans hsl)
         exact ⟨g2, g3⟩
       . rw [ints_set]
         exact congrArg ints (fillAt_step hdv hj.1 (by omega))
       . rw [fillAt_stop (m := 2 ^ lb) (by omega) hj.2 hj.1]
         have := tabs_long hg hT hL hi' hlt3 (by omega) (by rw [Nat.mul_comm]; omega) hcb9 (j := 2 ^ lb) rfl
         rw [<- hkn, hK] at this
         exact this
   obtain rfl : i = lens.length := by omega
   refine ⟨hCl.symm, hlkl.symm, (⟨db, cx, C, lx, lk, 2 ^ cb - 1, 2 ^ lb - 1, cb, mn, lens.length⟩, relAdd rel 43 fx (ints F)), ⟨relLe.add _ _ _ _, ⟨hg, ⟨by dsimp only; omega, hcb9⟩, rfl, hCl, ⟨hmn.1, fun v => (hall v).1⟩, fun v hv => hT.short v (cd_hit hg v).1 hv, fun v hv => ?_⟩⟩, relLe.refl _, ⟨rfl, rfl⟩, ⟨rfl, rfl⟩, rfl, rfl, rfl, rfl, rfl⟩
   obtain ⟨k, hk, g1, g2⟩ := tabs_end hg hT hL hcb9 hv
   obtain ⟨sl, g3, g4, g5⟩ := hlk.at_ k hk
   have hk1 : (k + 1) * 2 ^ lb <= t * 2 ^ lb := Nat.mul_le_mul_right _ (by omega)
   rw [Nat.mul_comm t] at hk1
   have hk3 : (k + 1) * 2 ^ lb = k * 2 ^ lb + 2 ^ lb := by rw [Nat.add_mul, Nat.one_mul]
   have hle3 : ((F.take ((k + 1) * 2 ^ lb)).drop (k * 2 ^ lb)).length = 2 ^ lb := by
     rw [List.length_drop, List.length_take]; omega
   have hFl : (k + 1) * 2 ^ lb <= (ints F).length := by rw [ints_len]; omega
   refine ⟨k, sl, (F.take ((k + 1) * 2 ^ lb)).drop (k * 2 ^ lb), lb, g1, by omega, g3, .inl (.inr ⟨rfl, k * 2 ^ lb, (k + 1) * 2 ^ lb, by omega, hFl, g4, ?_⟩), by rw [hle3]; exact g5, hlb11, rfl, hle3, ?_⟩
   . show ints _ = ((ints F).take ((k + 1) * 2 ^ lb)).drop (k * 2 ^ lb)
     unfold ints
     rw [List.map_drop, List.map_take]
   . rw [part_get (Nat.mod_lt _ q0)]
     exact g2
 . have hge : cb = mx := by omega
   refine ⟨(0, List.replicate (2 ^ cb) 0), ⟨Nat.zero_le _, tabs_zero List.length_replicate⟩, rfl, rfl, ?_⟩
   rintro ⟨i, C⟩ ⟨hi, hT⟩
   dsimp only at hi hT ⊢
   have hCl := hT.len
   refine ⟨fun h1 => ?_, fun h1 => ?_⟩
   . refine ⟨by omega, by omega, fun c hc _ => ?_⟩
     obtain ⟨hi', rfl⟩ := canon_at hc
     dsimp only
     have hv := cval_small hg hi'
     have hlt2 := cval_lt lens i
     have hlp := hg.pos _ (getD_mem hi')
     have hle : lens.getD i 0 <= mx := (hmm.all i hi').2
     simp only [w64 (show lens.getD i 0 < 2 ^ 64 by omega), chunkN (show i <= 60 by omega) hlp.2, shl1 (show lens.getD i 0 <= 62 by omega), fillAt_len, true_and]
     refine ⟨by decide, fun h2 => ?_, fun h2 => absurd hle (by omega)⟩
     have hle2 : lens.getD i 0 <= cb := by omega
     have r9 : (2 : Nat) ^ lens.getD i 0 <= 2 ^ 20 := Nat.pow_le_pow_right (by decide) hlp.2
     refine ⟨by omega, by omega, cval lens i, ⟨Nat.mod_eq_of_lt hlt2, by omega⟩, rfl, congrArg ints (fillAt_zero hlt2).symm, fun j hj => ⟨fun h3 => ⟨by omega, by omega, by omega, j + 2 ^ lens.getD i 0, ⟨⟨by rw [Nat.add_mod_right]; exact hj.1, by omega⟩, by omega⟩, by rw [Int.natCast_add], ?_⟩, fun h3 => ⟨by omega, (i + 1, fillAt C 0 (2 ^ lens.getD i 0) (cval lens i) (i * 32 + lens.getD i 0) j), ⟨⟨hi', tabs_short hg hT hi' hle2 (j := j) (by omega)⟩, by dsimp only; omega⟩, rfl, rfl⟩⟩⟩
     have := fillAt_step (C := C) (off := 0) (ch := i * 32 + lens.getD i 0) hlt2 hj.1 (by omega)
     rw [Nat.zero_add] at this
     rw [ints_set, this]
   obtain rfl : i = lens.length := by omega
   exact ⟨hCl.symm, (⟨db, cx, C, .slice none 0 0, [], 2 ^ cb - 1, 0, cb, mn, lens.length⟩, rel), ⟨relLe.refl _, ⟨hg, ⟨by dsimp only; omega, hcb9⟩, rfl, hCl, ⟨hmn.1, fun v => (hall v).1⟩, fun v hv => hT.short v (cd_hit hg v).1 hv, fun v hv => absurd (hall v).2 (by dsimp only at hv; omega)⟩⟩, relLe.refl _, ⟨rfl, rfl⟩, ⟨rfl, rfl⟩, rfl, rfl, rfl, rfl, rfl⟩
theorem s100 (G : Gl) : SpecOK (CC G) 100 c100.pt := specD G (b100_ok G) (fn := Tryz.f100) rfl NA [2] c100 (fun x => a100 x.db x.lens) fun ⟨m, rel, db, cv, lens⟩ h => Met.of (eq_c100 G m rel db cv lens) (ok_c100 G m rel db cv lens h)
end Pc
