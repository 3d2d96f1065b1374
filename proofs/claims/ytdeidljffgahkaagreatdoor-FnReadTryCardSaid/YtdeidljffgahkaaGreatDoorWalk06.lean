/-
  The reference's and the law's small functions do what their contracts say (part 1).
-/
import Derived.Test.YtdeidljffgahkaaGreatDoorWalk05
import Derived.Test.YtdeidljffgahkaaGreatDoorRows
import Derived.Test.YtdeidljffgahkaaGreatDoorCards
import Derived.Test.YtdeidljffgahkaaGreatDoorTie
import Derived.WalkKit
import Derived.ProofKit
import Derived.OpenShut
import Derived.Deep.DeepHandedRow
import Derived.Deep.DeepWitnessRowRef
import Derived.LaidMore
import Derived.Stop.LaidErr
import Derived.Lib.SmallJoins
import Derived.MakeChecks
import Derived.Carry
set_option linter.unusedVariables false
set_option maxRecDepth 100000
open Go Go.Vg Go.Proofs
namespace Pc
def cond_c16 (G : Gl) (m : Fz) (rel : Rel TT) (v : Value) (l : List Pt) : Prop :=
 Br (decide ((↑(List.length l) : Int) > (2147483647 : Int)))
 (∃ x1 : (Bool), (True) ∧ 
 (false = x1) ∧ 
 (m = m) ∧ (relLe rel rel) ∧ 
 (True))
 (∃ x1 : (Nat), (x1 ≤ List.length l) ∧ 
 ((0 : Int) = (x1 : Int)) ∧ 
 (m = m) ∧ (relLe rel rel) ∧ 
 ∀ x2 : (Nat), (x2 ≤ List.length l) → 
 Br (decide ((x2 : Int) < (↑(List.length l) : Int)))
 ((inRange (x2 : Int) (List.length l)) ∧ 
 (Int.toNat (x2 : Int) < List.length l) ∧ 
 ∀ x3 : (Pt), (l[Int.toNat (x2 : Int)]? = some x3) → 
 ∀ x4 : (Nat), (x4 = x4) ∧ (x4 = x4) ∧ ∀ x5 : (Nat), (x5 = x5) ∧ Br (decide ((↑(x3.s.n) : Int) > (2147483647 : Int)))
 (∃ x6 : (Bool), (True) ∧ 
 (false = x6) ∧ 
 (m = m) ∧ (relLe rel rel) ∧ 
 (True))
 ((inI64 ((x2 : Int) + (1 : Int))) ∧ 
 ∃ x6 : (Nat), (x6 ≤ List.length l ∧ List.length l - x6 < List.length l - x2) ∧ 
 ((x2 : Int) + (1 : Int) = (x6 : Int)) ∧ 
 (m = m) ∧ (relLe rel rel) ∧ 
 (True)))
 (∃ x3 : (Bool), (True) ∧ 
 (true = x3) ∧ 
 (m = m) ∧ (relLe rel rel) ∧ 
 (True)))
noncomputable def law_c16 (G : Gl) (m : Fz) (rel : Rel TT) (v : Value) (l : List Pt) : VCT := fnx (CC G) (IN G no NA) (a16 l) Tryz.f16 (c16.args (m, rel, v, l)) (c16.H (m, rel, v, l)) (outK true 2 (c16.ret (m, rel, v, l))) (c16.pan (m, rel, v, l))
theorem eq_c16 (G : Gl) (m : Fz) (rel : Rel TT) (v : Value) (l : List Pt) : cond_c16 G m rel v l = (law_c16 G m rel v l).den := by kernel_rfl
def cond_c18 (G : Gl) (m : Fz) (rel : Rel TT) (v : Value) (l : List Pt) : Prop :=
 Br (decide ((↑(List.length l) : Int) > (60 : Int)))
 (∃ x1 : (Bool), (x1 = true → lightB (Prod.snd (Prod.snd (Prod.snd (m, rel, v, l))))) ∧ 
 (false = x1) ∧ 
 (m = m) ∧ (relLe rel rel) ∧ 
 (True))
 (∃ x1 : (Nat), (x1 ≤ List.length l ∧ List.length l ≤ (60 : Nat) ∧ ∀ (j : Nat) (p : Pt), j < x1 → l[j]? = some p → (0 : Int) ≤ Pt.kind p ∧ Pt.kind p ≤ (4 : Int) ∧ (Pt.kind p = (0 : Int) → Pt.n p ≤ (32 : Int)) ∧ Sl.n (Pt.s p) ≤ (40 : Nat) ∧ (Pt.kind p = (4 : Int) → Pt.n p ≤ (40 : Int))) ∧ 
 ((0 : Int) = (x1 : Int)) ∧ 
 (m = m) ∧ (relLe rel rel) ∧ 
 ∀ x2 : (Nat), (x2 ≤ List.length l ∧ List.length l ≤ (60 : Nat) ∧ ∀ (j : Nat) (p : Pt), j < x2 → l[j]? = some p → (0 : Int) ≤ Pt.kind p ∧ Pt.kind p ≤ (4 : Int) ∧ (Pt.kind p = (0 : Int) → Pt.n p ≤ (32 : Int)) ∧ Sl.n (Pt.s p) ≤ (40 : Nat) ∧ (Pt.kind p = (4 : Int) → Pt.n p ≤ (40 : Int))) → 
 Br (decide ((x2 : Int) < (↑(List.length l) : Int)))
 ((inRange (x2 : Int) (List.length l)) ∧ 
 (Int.toNat (x2 : Int) < List.length l) ∧ 
 (Int.toNat (x2 : Int) < List.length l) ∧ 
 ∀ x3 : (Pt), (l[Int.toNat (x2 : Int)]? = some x3) → 
 Br (decide (x3.kind < (0 : Int)))
 (∃ x4 : (Bool), (x4 = true → lightB (Prod.snd (Prod.snd (Prod.snd (m, rel, v, l))))) ∧ 
 (false = x4) ∧ 
 (m = m) ∧ (relLe rel rel) ∧ 
 (True))
 ((inRange (x2 : Int) (List.length l)) ∧ 
 (Int.toNat (x2 : Int) < List.length l) ∧ 
 (Int.toNat (x2 : Int) < List.length l) ∧ 
 ∀ x4 : (Pt), (l[Int.toNat (x2 : Int)]? = some x4) → 
 Br (decide (x4.kind > (4 : Int)))
 (∃ x5 : (Bool), (x5 = true → lightB (Prod.snd (Prod.snd (Prod.snd (m, rel, v, l))))) ∧ 
 (false = x5) ∧ 
 (m = m) ∧ (relLe rel rel) ∧ 
 (True))
 ((inRange (x2 : Int) (List.length l)) ∧ 
 (Int.toNat (x2 : Int) < List.length l) ∧ 
 (Int.toNat (x2 : Int) < List.length l) ∧ 
 ∀ x5 : (Pt), (l[Int.toNat (x2 : Int)]? = some x5) → 
 Br (x5.kind == (0 : Int))
 ((inRange (x2 : Int) (List.length l)) ∧ 
 (Int.toNat (x2 : Int) < List.length l) ∧ 
 (Int.toNat (x2 : Int) < List.length l) ∧ 
 ∀ x6 : (Pt), (l[Int.toNat (x2 : Int)]? = some x6) → 
 Br (decide (x6.n > (32 : Int)))
 (∃ x7 : (Bool), (x7 = true → lightB (Prod.snd (Prod.snd (Prod.snd (m, rel, v, l))))) ∧ 
 (false = x7) ∧ 
 (m = m) ∧ (relLe rel rel) ∧ 
 (True))
 ((inRange (x2 : Int) (List.length l)) ∧ 
 (Int.toNat (x2 : Int) < List.length l) ∧ 
 (Int.toNat (x2 : Int) < List.length l) ∧ 
 ∀ x7 : (Pt), (l[Int.toNat (x2 : Int)]? = some x7) → 
 Br (decide ((↑(x7.s.n) : Int) > (40 : Int)))
 (∃ x8 : (Bool), (x8 = true → lightB (Prod.snd (Prod.snd (Prod.snd (m, rel, v, l))))) ∧ 
 (false = x8) ∧ 
 (m = m) ∧ (relLe rel rel) ∧ 
 (True))
 ((inRange (x2 : Int) (List.length l)) ∧ 
 (Int.toNat (x2 : Int) < List.length l) ∧ 
 (Int.toNat (x2 : Int) < List.length l) ∧ 
 ∀ x8 : (Pt), (l[Int.toNat (x2 : Int)]? = some x8) → 
 Br (x8.kind == (4 : Int))
 ((inRange (x2 : Int) (List.length l)) ∧ 
 (Int.toNat (x2 : Int) < List.length l) ∧ 
 (Int.toNat (x2 : Int) < List.length l) ∧ 
 ∀ x9 : (Pt), (l[Int.toNat (x2 : Int)]? = some x9) → 
 Br (decide (x9.n > (40 : Int)))
 (∃ x10 : (Bool), (x10 = true → lightB (Prod.snd (Prod.snd (Prod.snd (m, rel, v, l))))) ∧ 
 (false = x10) ∧ 
 (m = m) ∧ (relLe rel rel) ∧ 
 (True))
 ((inI64 ((x2 : Int) + (1 : Int))) ∧ 
 ∃ x10 : (Nat), ((x10 ≤ List.length l ∧ List.length l ≤ (60 : Nat) ∧ ∀ (j : Nat) (p : Pt), j < x10 → l[j]? = some p → (0 : Int) ≤ Pt.kind p ∧ Pt.kind p ≤ (4 : Int) ∧ (Pt.kind p = (0 : Int) → Pt.n p ≤ (32 : Int)) ∧ Sl.n (Pt.s p) ≤ (40 : Nat) ∧ (Pt.kind p = (4 : Int) → Pt.n p ≤ (40 : Int))) ∧ List.length l - x10 < List.length l - x2) ∧ 
 ((x2 : Int) + (1 : Int) = (x10 : Int)) ∧ 
 (m = m) ∧ (relLe rel rel) ∧ 
 (True)))
 ((inI64 ((x2 : Int) + (1 : Int))) ∧ 
 ∃ x9 : (Nat), ((x9 ≤ List.length l ∧ List.length l ≤ (60 : Nat) ∧ ∀ (j : Nat) (p : Pt), j < x9 → l[j]? = some p → (0 : Int) ≤ Pt.kind p ∧ Pt.kind p ≤ (4 : Int) ∧ (Pt.kind p = (0 : Int) → Pt.n p ≤ (32 : Int)) ∧ Sl.n (Pt.s p) ≤ (40 : Nat) ∧ (Pt.kind p = (4 : Int) → Pt.n p ≤ (40 : Int))) ∧ List.length l - x9 < List.length l - x2) ∧ 
 ((x2 : Int) + (1 : Int) = (x9 : Int)) ∧ 
 (m = m) ∧ (relLe rel rel) ∧ 
 (True)))))
 ((inRange (x2 : Int) (List.length l)) ∧ 
 (Int.toNat (x2 : Int) < List.length l) ∧ 
 (Int.toNat (x2 : Int) < List.length l) ∧ 
 ∀ x6 : (Pt), (l[Int.toNat (x2 : Int)]? = some x6) → 
 Br (decide ((↑(x6.s.n) : Int) > (40 : Int)))
 (∃ x7 : (Bool), (x7 = true → lightB (Prod.snd (Prod.snd (Prod.snd (m, rel, v, l))))) ∧ 
 (false = x7) ∧ 
 (m = m) ∧ (relLe rel rel) ∧ 
 (True))
 ((inRange (x2 : Int) (List.length l)) ∧ 
 (Int.toNat (x2 : Int) < List.length l) ∧ 
 (Int.toNat (x2 : Int) < List.length l) ∧ 
 ∀ x7 : (Pt), (l[Int.toNat (x2 : Int)]? = some x7) → 
 Br (x7.kind == (4 : Int))
 ((inRange (x2 : Int) (List.length l)) ∧ 
 (Int.toNat (x2 : Int) < List.length l) ∧ 
 (Int.toNat (x2 : Int) < List.length l) ∧ 
 ∀ x8 : (Pt), (l[Int.toNat (x2 : Int)]? = some x8) → 
 Br (decide (x8.n > (40 : Int)))
 (∃ x9 : (Bool), (x9 = true → lightB (Prod.snd (Prod.snd (Prod.snd (m, rel, v, l))))) ∧ 
 (false = x9) ∧ 
 (m = m) ∧ (relLe rel rel) ∧ 
 (True))
 ((inI64 ((x2 : Int) + (1 : Int))) ∧ 
 ∃ x9 : (Nat), ((x9 ≤ List.length l ∧ List.length l ≤ (60 : Nat) ∧ ∀ (j : Nat) (p : Pt), j < x9 → l[j]? = some p → (0 : Int) ≤ Pt.kind p ∧ Pt.kind p ≤ (4 : Int) ∧ (Pt.kind p = (0 : Int) → Pt.n p ≤ (32 : Int)) ∧ Sl.n (Pt.s p) ≤ (40 : Nat) ∧ (Pt.kind p = (4 : Int) → Pt.n p ≤ (40 : Int))) ∧ List.length l - x9 < List.length l - x2) ∧ 
 ((x2 : Int) + (1 : Int) = (x9 : Int)) ∧ 
 (m = m) ∧ (relLe rel rel) ∧ 
 (True)))
 ((inI64 ((x2 : Int) + (1 : Int))) ∧ 
 ∃ x8 : (Nat), ((x8 ≤ List.length l ∧ List.length l ≤ (60 : Nat) ∧ ∀ (j : Nat) (p : Pt), j < x8 → l[j]? = some p → (0 : Int) ≤ Pt.kind p ∧ Pt.kind p ≤ (4 : Int) ∧ (Pt.kind p = (0 : Int) → Pt.n p ≤ (32 : Int)) ∧ Sl.n (Pt.s p) ≤ (40 : Nat) ∧ (Pt.kind p = (4 : Int) → Pt.n p ≤ (40 : Int))) ∧ List.length l - x8 < List.length l - x2) ∧ 
 ((x2 : Int) + (1 : Int) = (x8 : Int)) ∧ 
 (m = m) ∧ (relLe rel rel) ∧ 
 (True)))))))
 (∃ x3 : (Bool), (x3 = true → lightB (Prod.snd (Prod.snd (Prod.snd (m, rel, v, l))))) ∧ 
 (true = x3) ∧ 
 (m = m) ∧ (relLe rel rel) ∧ 
 (True)))
noncomputable def law_c18 (G : Gl) (m : Fz) (rel : Rel TT) (v : Value) (l : List Pt) : VCT := fnx (CC G) (IN G no NA) (a18 l) Tryz.f18 (c18.args (m, rel, v, l)) (c18.H (m, rel, v, l)) (outK true 2 (c18.ret (m, rel, v, l))) (c18.pan (m, rel, v, l))
theorem eq_c18 (G : Gl) (m : Fz) (rel : Rel TT) (v : Value) (l : List Pt) : cond_c18 G m rel v l = (law_c18 G m rel v l).den := by kernel_rfl
def cond_c98 (G : Gl) (m : Fz) (rel : Rel TT) (v n : Nat) : Prop :=
 ∃ x1 : (Nat), (x1 ≤ n) ∧ 
 ((0 : Int) = (↑(rev v x1) : Int)) ∧ 
 ((0 : Int) = (x1 : Int)) ∧ 
 (m = m) ∧ (relLe rel rel) ∧ 
 ∀ x2 : (Nat), (x2 ≤ n) → 
 Br (decide ((x2 : Int) < (↑n : Int)))
 (((0 : Int) ≤ (1 : Int)) ∧ 
 ((0 : Int) ≤ (x2 : Int)) ∧ 
 ∃ x3 : (Nat), (x3 ≤ n ∧ n - x3 < n - x2) ∧ 
 (bitI BinOp.or IntKind.u32 (shlI IntKind.u32 (↑(rev v x2) : Int) (1 : Int)) (bitI BinOp.and IntKind.u32 (shrI IntKind.u32 (↑v : Int) (x2 : Int)) (1 : Int)) = (↑(rev v x3) : Int)) ∧ 
 (IntKind.wrap IntKind.u32 ((x2 : Int) + (1 : Int)) = (x3 : Int)) ∧ 
 (m = m) ∧ (relLe rel rel) ∧ 
 (True))
 (∃ x3 : (Unit), (True) ∧ 
 ((↑(rev v x2) : Int) = (↑(rev v n) : Int)) ∧ 
 (m = m) ∧ (relLe rel rel) ∧ 
 (True))
noncomputable def law_c98 (G : Gl) (m : Fz) (rel : Rel TT) (v n : Nat) : VCT := fnx (CC G) (IN G no NA) (a98 v n) Tryz.f98 (c98.args (m, rel, v, n)) (c98.H (m, rel, v, n)) (outK true 2 (c98.ret (m, rel, v, n))) (c98.pan (m, rel, v, n))
theorem eq_c98 (G : Gl) (m : Fz) (rel : Rel TT) (v n : Nat) : cond_c98 G m rel v n = (law_c98 G m rel v n).den := by kernel_rfl
def cond_c97 (G : Gl) (m : Fz) (rel : Rel TT) (v : Value) (ns : List Nat) : Prop :=
 ∃ x1 : (Nat), (x1 ≤ List.length ns) ∧ 
 ((0 : Int) = (↑(kraft (List.take x1 ns)) : Int)) ∧ 
 ((0 : Int) = (x1 : Int)) ∧ 
 (m = m) ∧ (relLe rel rel) ∧ 
 ∀ x2 : (Nat), (x2 ≤ List.length ns) → 
 Br (decide ((x2 : Int) < (↑(List.length (linedL ns)) : Int)))
 ((inRange (x2 : Int) (List.length (linedL ns))) ∧ 
 (Int.toNat (x2 : Int) < List.length (linedL ns)) ∧ 
 (Int.toNat (x2 : Int) < List.length (linedL ns)) ∧ 
 ∀ x3 : (Cd), ((linedL ns)[Int.toNat (x2 : Int)]? = some x3) → 
 Br (x3.len == (0 : Int))
 (∃ x4 : (Unit), (True) ∧ 
 ((0 : Int) = (↑(kraft ns) : Int)) ∧ 
 (m = m) ∧ (relLe rel rel) ∧ 
 (True))
 ((inRange (x2 : Int) (List.length (linedL ns))) ∧ 
 (Int.toNat (x2 : Int) < List.length (linedL ns)) ∧ 
 (Int.toNat (x2 : Int) < List.length (linedL ns)) ∧ 
 ∀ x4 : (Cd), ((linedL ns)[Int.toNat (x2 : Int)]? = some x4) → 
 Br (decide (x4.len > (20 : Int)))
 (∃ x5 : (Unit), (True) ∧ 
 ((0 : Int) = (↑(kraft ns) : Int)) ∧ 
 (m = m) ∧ (relLe rel rel) ∧ 
 (True))
 ((inRange (x2 : Int) (List.length (linedL ns))) ∧ 
 (Int.toNat (x2 : Int) < List.length (linedL ns)) ∧ 
 (Int.toNat (x2 : Int) < List.length (linedL ns)) ∧ 
 ∀ x5 : (Cd), ((linedL ns)[Int.toNat (x2 : Int)]? = some x5) → 
 ((0 : Int) ≤ IntKind.wrap IntKind.u32 ((20 : Int) - x5.len)) ∧ 
 (inI64 ((x2 : Int) + (1 : Int))) ∧ 
 ∃ x6 : (Nat), (x6 ≤ List.length ns ∧ List.length ns - x6 < List.length ns - x2) ∧ 
 (IntKind.wrap IntKind.u64 ((↑(kraft (List.take x2 ns)) : Int) + shlI IntKind.u64 (1 : Int) (IntKind.wrap IntKind.u32 ((20 : Int) - x5.len))) = (↑(kraft (List.take x6 ns)) : Int)) ∧ 
 ((x2 : Int) + (1 : Int) = (x6 : Int)) ∧ 
 (m = m) ∧ (relLe rel rel) ∧ 
 (True))))
 (∃ x3 : (Unit), (True) ∧ 
 ((↑(kraft (List.take x2 ns)) : Int) = (↑(kraft ns) : Int)) ∧ 
 (m = m) ∧ (relLe rel rel) ∧ 
 (True))
noncomputable def law_c97 (G : Gl) (m : Fz) (rel : Rel TT) (v : Value) (ns : List Nat) : VCT := fnx (CC G) (IN G no NA) (a97 ns) Tryz.f97 (c97.args (m, rel, v, ns)) (c97.H (m, rel, v, ns)) (outK true 2 (c97.ret (m, rel, v, ns))) (c97.pan (m, rel, v, ns))
theorem eq_c97 (G : Gl) (m : Fz) (rel : Rel TT) (v : Value) (ns : List Nat) : cond_c97 G m rel v ns = (law_c97 G m rel v ns).den := by kernel_rfl
def cond_c44 (G : Gl) (m : Fz) (rel : Rel TT) (v : Value) (ns : List Nat) : Prop :=
 Br (decide ((↑(List.length (ints ns)) : Int) < (2 : Int)))
 (((∃ x1 : (Unit), (¬okLens ns) ∧ 
 (Value.slice none 0 0 = Value.slice none 0 0) ∧ (false = false) ∧ (m = m) ∧ (relLe rel rel) ∧ 
 (True)) ∨
 (∃ x1 : (Value), (okLens ns) ∧ 
 (Value.slice none 0 0 = Value.slice none 0 0 ∧ Value.slice none 0 0 = x1 ∧ linedL ns = []) ∧ 
 (false = true) ∧ 
 (m = m) ∧ (relLe rel rel) ∧ 
 (True))))
 (Br (decide ((↑(List.length (ints ns)) : Int) > (60 : Int)))
 (((∃ x1 : (Unit), (¬okLens ns) ∧ 
 (Value.slice none 0 0 = Value.slice none 0 0) ∧ (false = false) ∧ (m = m) ∧ (relLe rel rel) ∧ 
 (True)) ∨
 (∃ x1 : (Value), (okLens ns) ∧ 
 (Value.slice none 0 0 = Value.slice none 0 0 ∧ Value.slice none 0 0 = x1 ∧ linedL ns = []) ∧ 
 (false = true) ∧ 
 (m = m) ∧ (relLe rel rel) ∧ 
 (True))))
 (∃ x1 : (Nat × Value × Rel TT), (x1.1 ≤ List.length ns ∧ (2 : Nat) ≤ List.length ns ∧ List.length ns ≤ (60 : Nat) ∧ ∀ (j p : Nat), j < x1.1 → ns[j]? = some p → (1 : Nat) ≤ p ∧ p ≤ (20 : Nat)) ∧ 
 (Value.slice none 0 0 = x1.2.1 ∧ (0 : Nat) = x1.1) ∧ 
 ((0 : Int) = (↑(x1.1 - (1 : Nat)) : Int)) ∧ 
 ((0 : Int) = (x1.1 : Int)) ∧ 
 (m = m) ∧ (relLe rel rel) ∧ 
 (Value.slice none 0 0 = x1.2.1 ∧ [] = linedL (List.take x1.1 ns)) ∧ 
 ∀ x2 : (Nat × Value × Rel TT), (x2.1 ≤ List.length ns ∧ (2 : Nat) ≤ List.length ns ∧ List.length ns ≤ (60 : Nat) ∧ ∀ (j p : Nat), j < x2.1 → ns[j]? = some p → (1 : Nat) ≤ p ∧ p ≤ (20 : Nat)) → 
 Br (decide ((x2.1 : Int) < (↑(List.length (ints ns)) : Int)))
 ((inRange (x2.1 : Int) (List.length (ints ns))) ∧ 
 (Int.toNat (x2.1 : Int) < List.length (ints ns)) ∧ 
 ∀ x3 : (Int), ((ints ns)[Int.toNat (x2.1 : Int)]? = some x3) → 
 Br (x3 == (0 : Int))
 (((∃ x4 : (Unit), (¬okLens ns) ∧ 
 (Value.slice none 0 0 = Value.slice none 0 0) ∧ (false = false) ∧ (m = m) ∧ (relLe rel (relAdd rel 90 (x2.2.1) (linedL (List.take x2.1 ns)))) ∧ 
 (True)) ∨
 (∃ x4 : (Value), (okLens ns) ∧ 
 (Value.slice none 0 0 = Value.slice none 0 0 ∧ Value.slice none 0 0 = x4 ∧ linedL ns = []) ∧ 
 (false = true) ∧ 
 (m = m) ∧ (relLe rel (relAdd rel 90 (x2.2.1) (linedL (List.take x2.1 ns)))) ∧ 
 (True))))
 ((inRange (x2.1 : Int) (List.length (ints ns))) ∧ 
 (Int.toNat (x2.1 : Int) < List.length (ints ns)) ∧ 
 ∀ x4 : (Int), ((ints ns)[Int.toNat (x2.1 : Int)]? = some x4) → 
 Br (decide (x4 > (20 : Int)))
 (((∃ x5 : (Unit), (¬okLens ns) ∧ 
 (Value.slice none 0 0 = Value.slice none 0 0) ∧ (false = false) ∧ (m = m) ∧ (relLe rel (relAdd rel 90 (x2.2.1) (linedL (List.take x2.1 ns)))) ∧ 
 (True)) ∨
 (∃ x5 : (Value), (okLens ns) ∧ 
 (Value.slice none 0 0 = Value.slice none 0 0 ∧ Value.slice none 0 0 = x5 ∧ linedL ns = []) ∧ 
 (false = true) ∧ 
 (m = m) ∧ (relLe rel (relAdd rel 90 (x2.2.1) (linedL (List.take x2.1 ns)))) ∧ 
 (True))))
 (Br (decide ((x2.1 : Int) > (0 : Int)))
 (Br (decide ((x2.1 : Int) ≤ (0 : Int)))
 ((inI64 ((x2.1 : Int) - (1 : Int))) ∧ 
 False /- "index: of what?" -/)
 ((inRange (x2.1 : Int) (List.length (ints ns))) ∧ 
 (Int.toNat (x2.1 : Int) < List.length (ints ns)) ∧ 
 ∀ x5 : (Int), ((ints ns)[Int.toNat (x2.1 : Int)]? = some x5) → 
 ∀ x6 : (Nat), (x2.2.1 = x2.2.1 ∧ x2.1 = List.length (linedL (List.take x2.1 ns))) ∧ 
 (Value.slice (some (Addr.mk x6 0 none)) 1 1 = Value.slice (some (Addr.mk x6 0 none)) 1 1 ∧ (1 : Nat) = List.length [Cd.mk (IntKind.wrap IntKind.u32 ((↑(x2.1 - (1 : Nat)) : Int) + (1 : Int))) (0 : Int) (IntKind.wrap IntKind.u32 x5) (0 : Int)]) ∧ 
 (room (List.length (linedL (List.take x2.1 ns)) + List.length [Cd.mk (IntKind.wrap IntKind.u32 ((↑(x2.1 - (1 : Nat)) : Int) + (1 : Int))) (0 : Int) (IntKind.wrap IntKind.u32 x5) (0 : Int)]) 16) ∧ 
 ∀ x7 : (Value), (inI64 ((x2.1 : Int) + (1 : Int))) ∧ 
 ∃ x8 : (Nat × Value × Rel TT), ((x8.1 ≤ List.length ns ∧ (2 : Nat) ≤ List.length ns ∧ List.length ns ≤ (60 : Nat) ∧ ∀ (j p : Nat), j < x8.1 → ns[j]? = some p → (1 : Nat) ≤ p ∧ p ≤ (20 : Nat)) ∧ List.length ns - x8.1 < List.length ns - x2.1) ∧ 
 (x7 = x8.2.1 ∧ x2.1 + List.length [Cd.mk (IntKind.wrap IntKind.u32 ((↑(x2.1 - (1 : Nat)) : Int) + (1 : Int))) (0 : Int) (IntKind.wrap IntKind.u32 x5) (0 : Int)] = x8.1) ∧ 
 (IntKind.wrap IntKind.u32 ((↑(x2.1 - (1 : Nat)) : Int) + (1 : Int)) = (↑(x8.1 - (1 : Nat)) : Int)) ∧ 
 ((x2.1 : Int) + (1 : Int) = (x8.1 : Int)) ∧ 
 (m = m) ∧ (relLe rel (relAdd rel 90 (Value.slice (some (Addr.mk x6 0 none)) 1 1) [Cd.mk (IntKind.wrap IntKind.u32 ((↑(x2.1 - (1 : Nat)) : Int) + (1 : Int))) (0 : Int) (IntKind.wrap IntKind.u32 x5) (0 : Int)])) ∧ 
 (x7 = x8.2.1 ∧ linedL (List.take x2.1 ns) ++ [Cd.mk (IntKind.wrap IntKind.u32 ((↑(x2.1 - (1 : Nat)) : Int) + (1 : Int))) (0 : Int) (IntKind.wrap IntKind.u32 x5) (0 : Int)] = linedL (List.take x8.1 ns)) ∧ 
 (True)))
 ((inRange (x2.1 : Int) (List.length (ints ns))) ∧ 
 (Int.toNat (x2.1 : Int) < List.length (ints ns)) ∧ 
 ∀ x5 : (Int), ((ints ns)[Int.toNat (x2.1 : Int)]? = some x5) → 
 ∀ x6 : (Nat), (x2.2.1 = x2.2.1 ∧ x2.1 = List.length (linedL (List.take x2.1 ns))) ∧ 
 (Value.slice (some (Addr.mk x6 0 none)) 1 1 = Value.slice (some (Addr.mk x6 0 none)) 1 1 ∧ (1 : Nat) = List.length [Cd.mk (↑(x2.1 - (1 : Nat)) : Int) (0 : Int) (IntKind.wrap IntKind.u32 x5) (0 : Int)]) ∧ 
 (room (List.length (linedL (List.take x2.1 ns)) + List.length [Cd.mk (↑(x2.1 - (1 : Nat)) : Int) (0 : Int) (IntKind.wrap IntKind.u32 x5) (0 : Int)]) 16) ∧ 
 ∀ x7 : (Value), (inI64 ((x2.1 : Int) + (1 : Int))) ∧ 
 ∃ x8 : (Nat × Value × Rel TT), ((x8.1 ≤ List.length ns ∧ (2 : Nat) ≤ List.length ns ∧ List.length ns ≤ (60 : Nat) ∧ ∀ (j p : Nat), j < x8.1 → ns[j]? = some p → (1 : Nat) ≤ p ∧ p ≤ (20 : Nat)) ∧ List.length ns - x8.1 < List.length ns - x2.1) ∧ 
 (x7 = x8.2.1 ∧ x2.1 + List.length [Cd.mk (↑(x2.1 - (1 : Nat)) : Int) (0 : Int) (IntKind.wrap IntKind.u32 x5) (0 : Int)] = x8.1) ∧ 
 ((↑(x2.1 - (1 : Nat)) : Int) = (↑(x8.1 - (1 : Nat)) : Int)) ∧ 
 ((x2.1 : Int) + (1 : Int) = (x8.1 : Int)) ∧ 
 (m = m) ∧ (relLe rel (relAdd rel 90 (Value.slice (some (Addr.mk x6 0 none)) 1 1) [Cd.mk (↑(x2.1 - (1 : Nat)) : Int) (0 : Int) (IntKind.wrap IntKind.u32 x5) (0 : Int)])) ∧ 
 (x7 = x8.2.1 ∧ linedL (List.take x2.1 ns) ++ [Cd.mk (↑(x2.1 - (1 : Nat)) : Int) (0 : Int) (IntKind.wrap IntKind.u32 x5) (0 : Int)] = linedL (List.take x8.1 ns)) ∧ 
 (True)))))
 ((x2.2.1 = x2.2.1 ∧ x2.1 = List.length (linedL (List.take x2.1 ns))) ∧ 
 ((∃ x3 : (Unit), (¬okLens ns) ∧ 
 False /- "match: values of two makes" -/) ∨
 (∃ x3 : (Value), (okLens ns) ∧ 
 (x2.2.1 = x3 ∧ linedL (List.take x2.1 ns) = linedL ns) ∧ 
 (true = true) ∧ (m = m) ∧ (relLe rel rel) ∧ 
 (True))))))
noncomputable def law_c44 (G : Gl) (m : Fz) (rel : Rel TT) (v : Value) (ns : List Nat) : VCT := fnx (CC G) (IN G no NA) (a44 ns) Tryz.f44 (c44.args (m, rel, v, ns)) (c44.H (m, rel, v, ns)) (outK true 2 (c44.ret (m, rel, v, ns))) (c44.pan (m, rel, v, ns))
theorem eq_c44 (G : Gl) (m : Fz) (rel : Rel TT) (v : Value) (ns : List Nat) : cond_c44 G m rel v ns = (law_c44 G m rel v ns).den := by kernel_rfl
def cond_c46 (G : Gl) (m : Fz) (rel : Rel TT) (v : Value) (ns : List Nat) : Prop :=
 ∃ x1 : (Nat × Value), (x1.1 ≤ List.length ns) ∧ 
 (Value.slice none 0 0 = x1.2 ∧ (0 : Nat) = x1.1) ∧ 
 ((0 : Int) = (↑(sum2 (List.take x1.1 ns)) : Int)) ∧ 
 ((0 : Int) = (x1.1 : Int)) ∧ 
 (m = m) ∧ (relLe rel rel) ∧ 
 (Value.slice none 0 0 = x1.2 ∧ [] = rgL 0 (List.take x1.1 ns)) ∧ 
 ∀ x2 : (Nat × Value), (x2.1 ≤ List.length ns) → 
 Br (decide ((x2.1 : Int) < (↑(List.length (ints ns)) : Int)))
 ((inRange (x2.1 : Int) (List.length (ints ns))) ∧ 
 (Int.toNat (x2.1 : Int) < List.length (ints ns)) ∧ 
 ∀ x3 : (Int), ((ints ns)[Int.toNat (x2.1 : Int)]? = some x3) → 
 ∀ x4 : (Nat), (x2.2 = x2.2 ∧ x2.1 = List.length (rgL 0 (List.take x2.1 ns))) ∧ 
 (Value.slice (some (Addr.mk x4 0 none)) 1 1 = Value.slice (some (Addr.mk x4 0 none)) 1 1 ∧ (1 : Nat) = List.length [Rg.mk (↑(sum2 (List.take x2.1 ns)) : Int) (IntKind.wrap IntKind.u32 x3)]) ∧ 
 (room (List.length (rgL 0 (List.take x2.1 ns)) + List.length [Rg.mk (↑(sum2 (List.take x2.1 ns)) : Int) (IntKind.wrap IntKind.u32 x3)]) 8) ∧ 
 ∀ x5 : (Value), (inRange (x2.1 : Int) (List.length (ints ns))) ∧ 
 (Int.toNat (x2.1 : Int) < List.length (ints ns)) ∧ 
 ∀ x6 : (Int), ((ints ns)[Int.toNat (x2.1 : Int)]? = some x6) → 
 ((0 : Int) ≤ x6) ∧ 
 (inI64 ((x2.1 : Int) + (1 : Int))) ∧ 
 ∃ x7 : (Nat × Value), (x7.1 ≤ List.length ns ∧ List.length ns - x7.1 < List.length ns - x2.1) ∧ 
 (x5 = x7.2 ∧ x2.1 + List.length [Rg.mk (↑(sum2 (List.take x2.1 ns)) : Int) (IntKind.wrap IntKind.u32 x3)] = x7.1) ∧ 
 (IntKind.wrap IntKind.u32 ((↑(sum2 (List.take x2.1 ns)) : Int) + shlI IntKind.u32 (1 : Int) x6) = (↑(sum2 (List.take x7.1 ns)) : Int)) ∧ 
 ((x2.1 : Int) + (1 : Int) = (x7.1 : Int)) ∧ 
 (m = m) ∧ (relLe rel (relAdd rel 97 (Value.slice (some (Addr.mk x4 0 none)) 1 1) [Rg.mk (↑(sum2 (List.take x2.1 ns)) : Int) (IntKind.wrap IntKind.u32 x3)])) ∧ 
 (x5 = x7.2 ∧ rgL 0 (List.take x2.1 ns) ++ [Rg.mk (↑(sum2 (List.take x2.1 ns)) : Int) (IntKind.wrap IntKind.u32 x3)] = rgL 0 (List.take x7.1 ns)) ∧ 
 (True))
 ((x2.2 = x2.2 ∧ x2.1 = List.length (rgL 0 (List.take x2.1 ns))) ∧ 
 ∃ x3 : (Value), (True) ∧ 
 (x2.2 = x3 ∧ rgL 0 (List.take x2.1 ns) = rgL 0 ns) ∧ 
 ((↑(sum2 (List.take x2.1 ns)) : Int) = (↑(sum2 ns) : Int)) ∧ 
 (m = m) ∧ (relLe rel rel) ∧ 
 (True))
noncomputable def law_c46 (G : Gl) (m : Fz) (rel : Rel TT) (v : Value) (ns : List Nat) : VCT := fnx (CC G) (IN G no NA) (a46 ns) Tryz.f46 (c46.args (m, rel, v, ns)) (c46.H (m, rel, v, ns)) (outK true 2 (c46.ret (m, rel, v, ns))) (c46.pan (m, rel, v, ns))
theorem eq_c46 (G : Gl) (m : Fz) (rel : Rel TT) (v : Value) (ns : List Nat) : cond_c46 G m rel v ns = (law_c46 G m rel v ns).den := by kernel_rfl
def cond_c47 (G : Gl) (m : Fz) (rel : Rel TT) (v : Value) (ns : List Nat) : Prop :=
 ∀ x1 : (Nat), (Value.slice (some (Addr.mk x1 0 none)) 0 0 = Value.slice (some (Addr.mk x1 0 none)) 0 0 ∧ (0 : Nat) = (0 : Nat)) ∧ 
 (room ((0 : Nat) + List.length (linedL ns)) 16) ∧ 
 ∀ x2 : (Value), ∃ x3 : (Nat), ((1 : Nat) ≤ x3 ∧ x3 ≤ (21 : Nat)) ∧ 
 ((0 : Int) = (↑(nx ns (x3 - (1 : Nat)) (List.length ns)) : Int)) ∧ 
 ((1 : Int) = (x3 : Int)) ∧ 
 (m = m) ∧ (relLe rel rel) ∧ 
 (x2 = x2 ∧ [] ++ linedL ns = outL ns x3 0) ∧ 
 ∀ x4 : (Nat), ((1 : Nat) ≤ x4 ∧ x4 ≤ (21 : Nat)) → 
 Br (decide ((x4 : Int) ≤ (20 : Int)))
 (((0 : Int) ≤ (1 : Int)) ∧ 
 ∃ x5 : (Nat), (x5 ≤ List.length ns) ∧ 
 (shlI IntKind.u32 (↑(nx ns (x4 - (1 : Nat)) (List.length ns)) : Int) (1 : Int) = (↑(nx ns (Int.toNat (x4 : Int)) x5) : Int)) ∧ 
 ((0 : Int) = (x5 : Int)) ∧ 
 (m = m) ∧ (relLe rel rel) ∧ 
 (x2 = x2 ∧ outL ns x4 0 = outL ns (Int.toNat (x4 : Int)) x5) ∧ 
 ∀ x6 : (Nat), (x6 ≤ List.length ns) → 
 Br (decide ((x6 : Int) < (↑((0 : Nat) + List.length (linedL ns)) : Int)))
 ((x2 = x2) ∧ (inRange (x6 : Int) (List.length (outL ns (Int.toNat (x4 : Int)) x6))) ∧ 
 (x2 = x2 ∧ Int.toNat (x6 : Int) < List.length (outL ns (Int.toNat (x4 : Int)) x6)) ∧ 
 (x2 = x2) ∧ (Int.toNat (x6 : Int) < List.length (outL ns (Int.toNat (x4 : Int)) x6)) ∧ 
 ∀ x7 : (Cd), ((outL ns (Int.toNat (x4 : Int)) x6)[Int.toNat (x6 : Int)]? = some x7) → 
 Br (x7.len == (x4 : Int))
 (∀ x8 : (Nat → Option Obj), (Int.toNat (↑(nx ns (Int.toNat (x4 : Int)) x6) : Int) < (4294967296 : Nat) ∧ Int.toNat (x4 : Int) ≤ (20 : Nat)) ∧ 
 ((↑(nx ns (Int.toNat (x4 : Int)) x6) : Int) = (↑(Int.toNat (↑(nx ns (Int.toNat (x4 : Int)) x6) : Int)) : Int)) ∧ 
 ((x4 : Int) = (↑(Int.toNat (x4 : Int)) : Int)) ∧ 
 (x8 = x8) ∧ 
 (relLe rel rel) ∧ 
 ∀ x9 : (Unit), (True) → 
 (x8 = x8) ∧ 
 (x2 = x2) ∧ (inRange (x6 : Int) (List.length (outL ns (Int.toNat (x4 : Int)) x6))) ∧ 
 (x2 = x2 ∧ Int.toNat (x6 : Int) < List.length (outL ns (Int.toNat (x4 : Int)) x6)) ∧ 
 (x2 = x2) ∧ (Int.toNat (x6 : Int) < List.length (outL ns (Int.toNat (x4 : Int)) x6)) ∧ 
 ∀ x10 : (Cd), ((outL ns (Int.toNat (x4 : Int)) x6)[Int.toNat (x6 : Int)]? = some x10) → 
 (inI64 ((x6 : Int) + (1 : Int))) ∧ 
 ∃ x11 : (Nat), (x11 ≤ List.length ns ∧ List.length ns - x11 < List.length ns - x6) ∧ 
 (IntKind.wrap IntKind.u32 ((↑(nx ns (Int.toNat (x4 : Int)) x6) : Int) + (1 : Int)) = (↑(nx ns (Int.toNat (x4 : Int)) x11) : Int)) ∧ 
 ((x6 : Int) + (1 : Int) = (x11 : Int)) ∧ 
 (m = m) ∧ (relLe rel rel) ∧ 
 (x2 = x2 ∧ List.set (outL ns (Int.toNat (x4 : Int)) x6) (Int.toNat (x6 : Int)) (Cd.mk x10.sym x10.cnt x10.len (↑(rev (Int.toNat (↑(nx ns (Int.toNat (x4 : Int)) x6) : Int)) (Int.toNat (x4 : Int))) : Int)) = outL ns (Int.toNat (x4 : Int)) x11) ∧ 
 (True))
 ((inI64 ((x6 : Int) + (1 : Int))) ∧ 
 ∃ x8 : (Nat), (x8 ≤ List.length ns ∧ List.length ns - x8 < List.length ns - x6) ∧ 
 ((↑(nx ns (Int.toNat (x4 : Int)) x6) : Int) = (↑(nx ns (Int.toNat (x4 : Int)) x8) : Int)) ∧ 
 ((x6 : Int) + (1 : Int) = (x8 : Int)) ∧ 
 (m = m) ∧ (relLe rel rel) ∧ 
 (x2 = x2 ∧ outL ns (Int.toNat (x4 : Int)) x6 = outL ns (Int.toNat (x4 : Int)) x8) ∧ 
 (True)))
 (∃ x7 : (Nat), (((1 : Nat) ≤ x7 ∧ x7 ≤ (21 : Nat)) ∧ (21 : Nat) - x7 < (21 : Nat) - x4) ∧ 
 ((↑(nx ns (Int.toNat (x4 : Int)) x6) : Int) = (↑(nx ns (x7 - (1 : Nat)) (List.length ns)) : Int)) ∧ 
 (IntKind.wrap IntKind.u32 ((x4 : Int) + (1 : Int)) = (x7 : Int)) ∧ 
 (m = m) ∧ (relLe rel rel) ∧ 
 (x2 = x2 ∧ outL ns (Int.toNat (x4 : Int)) x6 = outL ns x7 0) ∧ 
 (True)))
 ((x2 = x2 ∧ (0 : Nat) + List.length (linedL ns) = List.length (outL ns x4 0)) ∧ 
 ∃ x5 : (Value), (True) ∧ 
 (x2 = x5 ∧ outL ns x4 0 = canonL ns) ∧ 
 (m = m) ∧ (relLe rel rel) ∧ 
 (True))
noncomputable def law_c47 (G : Gl) (m : Fz) (rel : Rel TT) (v : Value) (ns : List Nat) : VCT := fnx (CC G) (IN G b47 NA) (a47 ns) Tryz.f47 (c47.args (m, rel, v, ns)) (c47.H (m, rel, v, ns)) (outK true 2 (c47.ret (m, rel, v, ns))) (c47.pan (m, rel, v, ns))
theorem eq_c47 (G : Gl) (m : Fz) (rel : Rel TT) (v : Value) (ns : List Nat) : cond_c47 G m rel v ns = (law_c47 G m rel v ns).den := by kernel_rfl
def cond_c17 (G : Gl) (m : Fz) (rel : Rel TT) (v : Value) (ns : List Nat) (v2 : Value) (es : List Nat) : Prop :=
 ∀ x1 : (Nat → Option Obj), (∀ (n : Nat), n ∈ Prod.snd (Prod.snd (Prod.snd (x1, Prod.fst (Prod.snd (m, rel, v, ns, v2, es)), Prod.fst (Prod.snd (Prod.snd (m, rel, v, ns, v2, es))), nats (ints (Prod.fst (Prod.snd (Prod.snd (Prod.snd (m, rel, v, ns, v2, es))))))))) → n < (256 : Nat)) ∧ 
 ((0 : Int) = (0 : Int)) ∧ 
 (Value.slice none 0 0 = Value.slice none 0 0) ∧ (v = v ∧ ints ns = ints (nats (ints ns))) ∧ 
 (x1 = x1) ∧ 
 (relLe rel rel) ∧ 
 (∀ x2 : (Unit), (¬okLens (nats (ints ns))) → 
 (x1 = x1) ∧ 
 ((∃ x3 : (Unit), (True) ∧ 
 (Value.slice none 0 0 = Value.slice none 0 0) ∧ (Value.slice none 0 0 = Value.slice none 0 0) ∧ (false = false) ∧ (m = m) ∧ (relLe rel rel) ∧ 
 (True)) ∨
 (∃ x3 : (Value × Value), (Good ns ∧ List.length es ≤ (30 : Nat) ∧ ∀ (n : Nat), n ∈ Prod.snd (Prod.snd (Prod.snd (Prod.snd (Prod.snd (m, rel, v, ns, v2, es))))) → n ≤ (20 : Nat)) ∧ 
 (Value.slice none 0 0 = Value.slice none 0 0 ∧ Value.slice none 0 0 = x3.1 ∧ canonL ns = []) ∧ 
 (Value.slice none 0 0 = Value.slice none 0 0 ∧ Value.slice none 0 0 = x3.2 ∧ rgL 0 es = []) ∧ 
 (false = true) ∧ 
 (m = m) ∧ (relLe rel rel) ∧ 
 (True)))) ∧
 (∀ x2 : (Value), (okLens (nats (ints ns))) → 
 (x1 = x1) ∧ 
 ∀ x3 : (Nat → Option Obj), (okLens (lensOf (linedL (nats (ints ns))))) ∧ 
 (x2 = x2 ∧ linedL (nats (ints ns)) = linedL (lensOf (linedL (nats (ints ns))))) ∧ 
 (x3 = x3) ∧ 
 (relLe rel rel) ∧ 
 ∀ x4 : (Unit), (True) → 
 (x3 = x3) ∧ 
 Br (!(↑(kraft (lensOf (linedL (nats (ints ns))))) : Int) == (1048576 : Int))
 (((∃ x5 : (Unit), (True) ∧ 
 (Value.slice none 0 0 = Value.slice none 0 0) ∧ (Value.slice none 0 0 = Value.slice none 0 0) ∧ (false = false) ∧ (m = m) ∧ (relLe rel rel) ∧ 
 (True)) ∨
 (∃ x5 : (Value × Value), (Good ns ∧ List.length es ≤ (30 : Nat) ∧ ∀ (n : Nat), n ∈ Prod.snd (Prod.snd (Prod.snd (Prod.snd (Prod.snd (m, rel, v, ns, v2, es))))) → n ≤ (20 : Nat)) ∧ 
 (Value.slice none 0 0 = Value.slice none 0 0 ∧ Value.slice none 0 0 = x5.1 ∧ canonL ns = []) ∧ 
 (Value.slice none 0 0 = Value.slice none 0 0 ∧ Value.slice none 0 0 = x5.2 ∧ rgL 0 es = []) ∧ 
 (false = true) ∧ 
 (m = m) ∧ (relLe rel rel) ∧ 
 (True))))
 (Br (decide ((↑(List.length (ints es)) : Int) > (30 : Int)))
 (((∃ x5 : (Unit), (True) ∧ 
 (Value.slice none 0 0 = Value.slice none 0 0) ∧ (Value.slice none 0 0 = Value.slice none 0 0) ∧ (false = false) ∧ (m = m) ∧ (relLe rel rel) ∧ 
 (True)) ∨
 (∃ x5 : (Value × Value), (Good ns ∧ List.length es ≤ (30 : Nat) ∧ ∀ (n : Nat), n ∈ Prod.snd (Prod.snd (Prod.snd (Prod.snd (Prod.snd (m, rel, v, ns, v2, es))))) → n ≤ (20 : Nat)) ∧ 
 (Value.slice none 0 0 = Value.slice none 0 0 ∧ Value.slice none 0 0 = x5.1 ∧ canonL ns = []) ∧ 
 (Value.slice none 0 0 = Value.slice none 0 0 ∧ Value.slice none 0 0 = x5.2 ∧ rgL 0 es = []) ∧ 
 (false = true) ∧ 
 (m = m) ∧ (relLe rel rel) ∧ 
 (True))))
 (∃ x5 : (Nat × Value), (x5.1 ≤ List.length es ∧ List.length es ≤ (30 : Nat) ∧ ∀ (j p : Nat), j < x5.1 → es[j]? = some p → p ≤ (20 : Nat)) ∧ 
 (Value.slice none 0 0 = x5.2 ∧ (0 : Nat) = x5.1) ∧ 
 ((0 : Int) = (x5.1 : Int)) ∧ 
 (m = m) ∧ (relLe rel rel) ∧ 
 (Value.slice none 0 0 = x5.2 ∧ [] = ints (List.take x5.1 es)) ∧ 
 ∀ x6 : (Nat × Value), (x6.1 ≤ List.length es ∧ List.length es ≤ (30 : Nat) ∧ ∀ (j p : Nat), j < x6.1 → es[j]? = some p → p ≤ (20 : Nat)) → 
 Br (decide ((x6.1 : Int) < (↑(List.length (ints es)) : Int)))
 ((inRange (x6.1 : Int) (List.length (ints es))) ∧ 
 (Int.toNat (x6.1 : Int) < List.length (ints es)) ∧ 
 ∀ x7 : (Int), ((ints es)[Int.toNat (x6.1 : Int)]? = some x7) → 
 Br (decide (x7 > (20 : Int)))
 (((∃ x8 : (Unit), (True) ∧ 
 (Value.slice none 0 0 = Value.slice none 0 0) ∧ (Value.slice none 0 0 = Value.slice none 0 0) ∧ (false = false) ∧ (m = m) ∧ (relLe rel (relAdd rel 34 x6.2 (ints (List.take x6.1 es)))) ∧ 
 (True)) ∨
 (∃ x8 : (Value × Value), (Good ns ∧ List.length es ≤ (30 : Nat) ∧ ∀ (n : Nat), n ∈ Prod.snd (Prod.snd (Prod.snd (Prod.snd (Prod.snd (m, rel, v, ns, v2, es))))) → n ≤ (20 : Nat)) ∧ 
 (Value.slice none 0 0 = Value.slice none 0 0 ∧ Value.slice none 0 0 = x8.1 ∧ canonL ns = []) ∧ 
 (Value.slice none 0 0 = Value.slice none 0 0 ∧ Value.slice none 0 0 = x8.2 ∧ rgL 0 es = []) ∧ 
 (false = true) ∧ 
 (m = m) ∧ (relLe rel (relAdd rel 34 x6.2 (ints (List.take x6.1 es)))) ∧ 
 (True))))
 ((inRange (x6.1 : Int) (List.length (ints es))) ∧ 
 (Int.toNat (x6.1 : Int) < List.length (ints es)) ∧ 
 ∀ x8 : (Int), ((ints es)[Int.toNat (x6.1 : Int)]? = some x8) → 
 ∀ x9 : (Nat), (x6.2 = x6.2 ∧ x6.1 = List.length (ints (List.take x6.1 es))) ∧ 
 (Value.slice (some (Addr.mk x9 0 none)) 1 1 = Value.slice (some (Addr.mk x9 0 none)) 1 1 ∧ (1 : Nat) = List.length [IntKind.wrap IntKind.u64 x8]) ∧ 
 (room (List.length (ints (List.take x6.1 es)) + List.length [IntKind.wrap IntKind.u64 x8]) 8) ∧ 
 ∀ x10 : (Value), (inI64 ((x6.1 : Int) + (1 : Int))) ∧ 
 ∃ x11 : (Nat × Value), ((x11.1 ≤ List.length es ∧ List.length es ≤ (30 : Nat) ∧ ∀ (j p : Nat), j < x11.1 → es[j]? = some p → p ≤ (20 : Nat)) ∧ List.length es - x11.1 < List.length es - x6.1) ∧ 
 (x10 = x11.2 ∧ x6.1 + List.length [IntKind.wrap IntKind.u64 x8] = x11.1) ∧ 
 ((x6.1 : Int) + (1 : Int) = (x11.1 : Int)) ∧ 
 (m = m) ∧ (relLe rel (relAdd rel 34 (Value.slice (some (Addr.mk x9 0 none)) 1 1) [IntKind.wrap IntKind.u64 x8])) ∧ 
 (x10 = x11.2 ∧ ints (List.take x6.1 es) ++ [IntKind.wrap IntKind.u64 x8] = ints (List.take x11.1 es)) ∧ 
 (True)))
 ((x6.2 = x6.2 ∧ x6.1 = List.length (ints (List.take x6.1 es))) ∧ 
 ∀ x7 : (Nat → Option Obj), (List.length (nats (ints (List.take x6.1 es))) ≤ (30 : Nat) ∧ ∀ (n : Nat), n ∈ Prod.snd (Prod.snd (Prod.snd (x7, Prod.fst (Prod.snd (x3, Prod.fst (Prod.snd (x1, Prod.fst (Prod.snd (m, rel, v, ns, v2, es)), Prod.fst (Prod.snd (Prod.snd (m, rel, v, ns, v2, es))), nats (ints (Prod.fst (Prod.snd (Prod.snd (Prod.snd (m, rel, v, ns, v2, es)))))))), x2, lensOf (linedL (Prod.snd (Prod.snd (Prod.snd (x1, Prod.fst (Prod.snd (m, rel, v, ns, v2, es)), Prod.fst (Prod.snd (Prod.snd (m, rel, v, ns, v2, es))), nats (ints (Prod.fst (Prod.snd (Prod.snd (Prod.snd (m, rel, v, ns, v2, es))))))))))))), x6.2, nats (ints (List.take x6.1 es))))) → n ≤ (20 : Nat)) ∧ 
 ((0 : Int) = (0 : Int)) ∧ 
 (x6.2 = x6.2 ∧ ints (List.take x6.1 es) = ints (nats (ints (List.take x6.1 es)))) ∧ 
 (x7 = x7) ∧ 
 (relLe rel rel) ∧ 
 ∀ x8 : (Value), (True) → 
 (x7 = x7) ∧ 
 ∀ x9 : (Nat → Option Obj), (Good (lensOf (linedL (nats (ints ns))))) ∧ 
 (x2 = x2 ∧ linedL (nats (ints ns)) = linedL (lensOf (linedL (nats (ints ns))))) ∧ 
 (x9 = x9) ∧ 
 (relLe rel rel) ∧ 
 ∀ x10 : (Value), (True) → 
 (x9 = x9) ∧ 
 ((∃ x11 : (Unit), (True) ∧ 
 False /- "match: values of two makes" -/) ∨
 (∃ x11 : (Value × Value), (Good ns ∧ List.length es ≤ (30 : Nat) ∧ ∀ (n : Nat), n ∈ Prod.snd (Prod.snd (Prod.snd (Prod.snd (Prod.snd (m, rel, v, ns, v2, es))))) → n ≤ (20 : Nat)) ∧ 
 (x10 = x11.1 ∧ canonL (lensOf (linedL (nats (ints ns)))) = canonL ns) ∧ 
 (x8 = x11.2 ∧ rgL 0 (nats (ints (List.take x6.1 es))) = rgL 0 es) ∧ 
 (true = true) ∧ (m = m) ∧ (relLe rel rel) ∧ 
 (True)))))))
noncomputable def law_c17 (G : Gl) (m : Fz) (rel : Rel TT) (v : Value) (ns : List Nat) (v2 : Value) (es : List Nat) : VCT := fnx (CC G) (IN G b17 NA) (a17 es) Tryz.f17 (c17.args (m, rel, v, ns, v2, es)) (c17.H (m, rel, v, ns, v2, es)) (outK true 2 (c17.ret (m, rel, v, ns, v2, es))) (c17.pan (m, rel, v, ns, v2, es))
theorem eq_c17 (G : Gl) (m : Fz) (rel : Rel TT) (v : Value) (ns : List Nat) (v2 : Value) (es : List Nat) : cond_c17 G m rel v ns v2 es = (law_c17 G m rel v ns v2 es).den := by kernel_rfl
theorem ok_c16 (G : Gl) (m : Fz) (rel : Rel TT) (v : Value) (l : List Pt) : cond_c16 G m rel v l := by
  unfold cond_c16
  simp only [br_d, rel_self, true_and, and_true, inRange, inI64, Int.toNat_natCast]
  refine ⟨fun h => ⟨_, rfl⟩, fun h => ⟨0, Nat.zero_le _, rfl, fun i hi => ⟨fun h1 => ⟨by omega, by omega, fun p hp => fun _ _ => ⟨fun _ => ⟨_, rfl⟩, fun _ => ⟨by omega, i + 1, by omega, by omega⟩⟩⟩, fun _ => ⟨_, rfl⟩⟩⟩⟩
theorem ok_c98 (G : Gl) (m : Fz) (rel : Rel TT) (v n : Nat) (hv : v < 4294967296) (hn : n ≤ 20) : cond_c98 G m rel v n := by
  unfold cond_c98
  simp only [br_d, rel_self, true_and, and_true]
  refine ⟨0, by omega, rfl, rfl, fun i hi => ⟨fun h1 => ⟨by omega, by omega, i + 1, by omega, ?_, ?_⟩, fun h1 => ⟨(), ?_⟩⟩⟩
  · have h2 := rev_lt v i
    have h3 : (2 : Nat) ^ i ≤ 2 ^ 19 := Nat.pow_le_pow_right (by decide) (by omega)
    have h4 : min i 32 = i := by omega
    have h5 : min 1 32 = 1 := rfl
    have h6 := bt_lt v i
    have h7 : v / 2 ^ i < 4294967296 := Nat.lt_of_le_of_lt (Nat.div_le_self _ _) hv
    rw [shrN, show (1 : Int) = ((1 : Nat) : Int) from rfl, shlN rfl, andN rfl (by simpa [IntKind.bits, h4] using h7) (by decide), orN rfl (Nat.mod_lt _ (by decide)) ?_]
    · simp only [IntKind.bits, h4, h5, Nat.and_one_is_mod, rev, Nat.pow_one]
      rw [Nat.mod_eq_of_lt (by omega), Nat.mul_comm]
      have : 2 * rev v i ||| bt v i = 2 * rev v i + bt v i := by
        have := Nat.two_pow_add_eq_or_of_lt (i := 1) (show bt v i < 2 ^ 1 from h6) (rev v i)
        rw [Nat.pow_one] at this
        exact this.symm
      exact congrArg _ this
    · exact Nat.lt_of_le_of_lt Nat.and_le_right (by decide)
  · rw [show ((i : Int) + 1) = ((i + 1 : Nat) : Int) from rfl, wrId rfl (by simp only [IntKind.bits]; omega)]
  · have : i = n := by omega
    subst this; rfl
theorem ok_c97 (G : Gl) (m : Fz) (rel : Rel TT) (v : Value) (ns : List Nat) (ho : okLens ns) : cond_c97 G m rel v ns := by
  unfold cond_c97
  simp only [br_d, br_i, rel_self, true_and, and_true, Int.toNat_natCast, linedL_len, inRange, inI64]
  obtain ⟨h2, h60, hp⟩ := ho
  refine ⟨0, by omega, rfl, rfl, fun i hi => ⟨fun h1 => ⟨by omega, by omega, by omega, fun c hc => ?_⟩, fun h1 => ⟨(), ?_⟩⟩⟩
  · obtain ⟨l, hl, rfl⟩ := linedL_get hc
    have hl1 := hp l (List.mem_of_getElem? hl)
    dsimp only
    refine ⟨fun h => by omega, fun _ => ⟨by omega, by omega, by omega, fun c2 hc2 => ?_⟩⟩
    obtain rfl := Option.some.inj (hc.symm.trans hc2)
    dsimp only
    refine ⟨fun h => by omega, fun _ => ⟨by omega, by omega, by omega, fun c3 hc3 => ?_⟩⟩
    obtain rfl := Option.some.inj (hc.symm.trans hc3)
    dsimp only
    have e1 : IntKind.u32.wrap (20 - (l : Int)) = ((20 - l : Nat) : Int) := by rw [wr32]; omega
    rw [e1]
    refine ⟨by omega, by omega, i + 1, by omega, ?_, rfl⟩
    rw [show (1 : Int) = ((1 : Nat) : Int) from rfl, shlN rfl]
    have hk := kraft_take_succ hl
    have hb := kraft_le (ns.take (i + 1))
    have h3 : (2 : Nat) ^ (20 - l) ≤ 2 ^ 19 := Nat.pow_le_pow_right (by decide) (by omega)
    have h4 : min (20 - l) IntKind.u64.bits = 20 - l := by simp only [IntKind.bits]; omega
    rw [h4, Nat.one_mul, Nat.mod_eq_of_lt (by simp only [IntKind.bits]; omega), ← Int.natCast_add, wrId rfl, hk]
    rw [← hk]
    simp only [List.length_take] at hb
    have : min (i + 1) ns.length * 2 ^ 20 ≤ 60 * 2 ^ 20 := Nat.mul_le_mul_right _ (by omega)
    simp only [IntKind.bits]
    omega
  · have : i = ns.length := by omega
    subst this; rw [List.take_length]
theorem ok_c18 (G : Gl) (m : Fz) (rel : Rel TT) (v : Value) (l : List Pt) : cond_c18 G m rel v l := by
  unfold cond_c18
  simp only [br_d, br_i, rel_self, true_and, and_true, inRange, inI64, Int.toNat_natCast]
  refine ⟨fun h => ⟨false, by simp, rfl⟩, fun h => ⟨0, ⟨by omega, by omega, fun j p hj => by omega⟩, rfl, fun i hi => ⟨fun h1 => ⟨by omega, by omega, by omega, fun p hp => ?_⟩, fun h1 => ⟨true, fun _ => ⟨by omega, fun p hp => ?_⟩, rfl⟩⟩⟩⟩
  · have fin : (0 ≤ p.kind ∧ p.kind ≤ 4 ∧ (p.kind = 0 → p.n ≤ 32) ∧ p.s.n ≤ 40 ∧ (p.kind = 4 → p.n ≤ 40)) → ∃ x10 : (Nat), ((x10 ≤ List.length l ∧ List.length l ≤ (60 : Nat) ∧ ∀ (j : Nat) (p : Pt), j < x10 → l[j]? = some p → (0 : Int) ≤ Pt.kind p ∧ Pt.kind p ≤ (4 : Int) ∧ (Pt.kind p = (0 : Int) → Pt.n p ≤ (32 : Int)) ∧ Sl.n (Pt.s p) ≤ (40 : Nat) ∧ (Pt.kind p = (4 : Int) → Pt.n p ≤ (40 : Int))) ∧ List.length l - x10 < List.length l - i) ∧ ((i : Int) + (1 : Int) = (↑x10 : Int)) := by
      intro hg
      refine ⟨i + 1, ⟨⟨by omega, by omega, fun j q hj hq => ?_⟩, by omega⟩, rfl⟩
      by_cases hji : j = i
      · subst hji
        obtain rfl := Option.some.inj (hp.symm.trans hq)
        exact hg
      · exact hi.2.2 j q (by omega) hq
    have no : ∃ x4 : (Bool), (x4 = true → lightB l) ∧ (false = x4) := ⟨false, by simp, rfl⟩
    simp only [hp, Option.some.injEq, forall_eq']
    refine ⟨fun _ => no, fun k1 => ⟨by omega, by omega, by omega, fun _ => no, fun k2 => ⟨by omega, by omega, by omega, fun k3 => ⟨by omega, by omega, by omega, fun _ => no, fun k4 => ⟨by omega, by omega, by omega, fun _ => no, fun k5 => ⟨by omega, by omega, by omega, fun k6 => by omega, fun k6 => ⟨by omega, fin ?_⟩⟩⟩⟩, fun k3 => ⟨by omega, by omega, by omega, fun _ => no, fun k5 => ⟨by omega, by omega, by omega, fun k6 => ⟨by omega, by omega, by omega, fun _ => no, fun k7 => ⟨by omega, fin ?_⟩⟩, fun k6 => ⟨by omega, fin ?_⟩⟩⟩⟩⟩⟩ <;> omega
  · obtain ⟨j, hj, he⟩ := List.getElem_of_mem hp
    exact hi.2.2 j p (by omega) (by rw [List.getElem?_eq_getElem hj, he])
theorem ok_c44 (G : Gl) (m : Fz) (rel : Rel TT) (v : Value) (ns : List Nat) (hb : ∀ n ∈ ns, n < 256) : cond_c44 G m rel v ns := by
  unfold cond_c44
  simp only [br_d, br_i, rel_self, rel_add, true_and, and_true, inRange, inI64, Int.toNat_natCast, ints_len, linedL_len]
  refine ⟨fun h => .inl ⟨(), fun ho => ?_⟩, fun h => ⟨fun h1 => .inl ⟨(), fun ho => ?_⟩, fun h1 => ⟨(0, .slice none 0 0, rel), ⟨Nat.zero_le _, by omega, by omega, fun j p hj => absurd hj (Nat.not_lt_zero _)⟩, ⟨rfl, rfl⟩, rfl, rfl, ⟨rfl, rfl⟩, fun x hx => ⟨fun h2 => ⟨by omega, by omega, fun k hk => ?_⟩, fun h2 => ⟨?_, .inr ⟨x.2.1, ?_, rfl, ?_⟩⟩⟩⟩⟩⟩
  · have := ho.1; omega
  · have := ho.2.1; omega
  · obtain ⟨n, hn, rfl⟩ := ints_get hk
    have hn256 := hb n (List.mem_of_getElem? hn)
    have hw : IntKind.u32.wrap (n : Int) = (n : Int) := wrId rfl (by simp only [IntKind.bits]; omega)
    have bad : ¬ (1 ≤ n ∧ n ≤ 20) → ¬ okLens ns := fun h ho => h (ho.2.2 n (List.mem_of_getElem? hn))
    simp only [hk, Option.some.injEq, forall_eq', hw]
    have next : (1 ≤ n ∧ n ≤ 20) → ∀ (j p : Nat), j < x.1 + 1 → ns[j]? = some p → 1 ≤ p ∧ p ≤ 20 := by
      intro hg j p hj hp
      by_cases hji : j = x.1
      · rw [hji] at hp
        obtain rfl := Option.some.inj (hn.symm.trans hp)
        exact hg
      · exact hx.2.2.2 j p (by omega) hp
    refine ⟨fun h => .inl ⟨(), bad (by omega), relLe.add _ _ _ _⟩, fun h3 => ⟨by omega, by omega, fun h4 => .inl ⟨(), bad (by omega), relLe.add _ _ _ _⟩, fun h4 => ⟨fun h5 => ⟨fun h6 => by omega, fun h6 => ⟨by omega, by omega, fun b => ⟨?_, rfl, ?_, fun y => ⟨by omega, (x.1 + 1, y, rel), ⟨⟨by dsimp only; omega, by omega, by omega, next (by omega)⟩, by dsimp only; omega⟩, ⟨rfl, rfl⟩, ?_, rfl, rfl, ?_⟩⟩⟩⟩, fun h5 => ⟨by omega, by omega, fun b => ⟨?_, rfl, ?_, fun y => ⟨by omega, (x.1 + 1, y, rel), ⟨⟨by dsimp only; omega, by omega, by omega, next (by omega)⟩, by dsimp only; omega⟩, ⟨rfl, rfl⟩, ?_, rfl, rfl, ?_⟩⟩⟩⟩⟩⟩
    · simp only [List.length_take]; omega
    · simp only [List.length_take, List.length_singleton, room]; omega
    · rw [wr32]; dsimp only; omega
    · rw [linedL_next hn, wr32]
      have : ((x.1 - 1 : Nat) : Int) + 1 = (x.1 : Int) := by omega
      rw [this, Int.emod_eq_of_lt (by omega) (by omega)]
    · simp only [List.length_take]; omega
    · simp only [List.length_take, List.length_singleton, room]; omega
    · dsimp only; omega
    · rw [linedL_next hn]
      have : ((x.1 - 1 : Nat) : Int) = (x.1 : Int) := by omega
      rw [this]
  · simp only [List.length_take]; omega
  · refine ⟨hx.2.1, hx.2.2.1, fun l hl => ?_⟩
    obtain ⟨j, hj, he⟩ := List.getElem_of_mem hl
    exact hx.2.2.2 j l (by omega) (by rw [List.getElem?_eq_getElem hj, he])
  · rw [show x.1 = ns.length by omega, List.take_length]
theorem ok_c46 (G : Gl) (m : Fz) (rel : Rel TT) (v : Value) (ns : List Nat) (hl : ns.length ≤ 30) (hb : ∀ n ∈ ns, n ≤ 20) : cond_c46 G m rel v ns := by
  unfold cond_c46
  simp only [br_d, rel_self, rel_add, true_and, and_true, inRange, inI64, Int.toNat_natCast, ints_len, rgL_len]
  refine ⟨(0, .slice none 0 0), Nat.zero_le _, ⟨rfl, rfl⟩, rfl, rfl, ⟨rfl, rfl⟩, fun x hx => ⟨fun h2 => ⟨by omega, by omega, fun k hk => ?_⟩, fun h2 => ⟨?_, x.2, ?_, ?_⟩⟩⟩
  · obtain ⟨n, hn, rfl⟩ := ints_get hk
    have hn20 := hb n (List.mem_of_getElem? hn)
    have hw : IntKind.u32.wrap (n : Int) = (n : Int) := wrId rfl (by simp only [IntKind.bits]; omega)
    simp only [hk, Option.some.injEq, forall_eq', hw]
    refine fun b => ⟨?_, rfl, ?_, fun y => ⟨by omega, by omega, by omega, by omega, (x.1 + 1, y), ⟨by dsimp only; omega, by dsimp only; omega⟩, ⟨rfl, rfl⟩, ?_, rfl, rfl, ?_⟩⟩
    · simp only [List.length_take]; omega
    · simp only [List.length_take, List.length_singleton, room]; omega
    · have h1 := sum2_le (ns.take (x.1 + 1)) fun y hy => hb y (List.mem_of_mem_take hy)
      have h2 := sum2_next hn
      rw [show (1 : Int) = ((1 : Nat) : Int) from rfl, shlN rfl]
      have h3 : (2 : Nat) ^ n ≤ 2 ^ 20 := Nat.pow_le_pow_right (by decide) (by omega)
      have h4 : min n IntKind.u32.bits = n := by simp only [IntKind.bits]; omega
      simp only [List.length_take] at h1
      have h5 : min (x.1 + 1) ns.length * 2 ^ 20 ≤ 30 * 2 ^ 20 := Nat.mul_le_mul_right _ (by omega)
      rw [h4, Nat.one_mul, Nat.mod_eq_of_lt (by simp only [IntKind.bits]; omega), ← Int.natCast_add, wrId rfl, h2]
      simp only [IntKind.bits]; omega
    · rw [rgL_next hn]
  · simp only [List.length_take]; omega
  · rw [show x.1 = ns.length by omega, List.take_length]
    exact ⟨rfl, rfl⟩
  · rw [show x.1 = ns.length by omega, List.take_length]
theorem ok_c47 (G : Gl) (m : Fz) (rel : Rel TT) (v : Value) (ns : List Nat) (hg : Good ns) : cond_c47 G m rel v ns := by
  unfold cond_c47
  simp only [br_d, br_i, rel_self, true_and, and_true, inRange, inI64, Int.toNat_natCast, linedL_len, outL_len]
  have h60 := hg.sixty
  have hpos := fun (l : Nat) (hl : l ∈ ns) => hg.pos l hl
  have hx : ∀ n i, n ≤ 20 → nx ns n i ≤ 2 ^ 20 := fun n i hn => Nat.le_trans (nx_bound hg hn) (Nat.pow_le_pow_right (by decide) hn)
  refine fun b => ⟨?_, fun y => ⟨1, by omega, ?_, rfl, ?_, fun n hn => ⟨fun h1 => ⟨by omega, 0, by omega, ?_, rfl, rfl, fun i hi => ⟨fun h2 => ⟨by omega, by omega, by omega, fun c hc => ?_⟩, fun h2 => ⟨n + 1, by omega, ?_, ?_, ?_⟩⟩⟩, fun h1 => ⟨?_, y, rfl, ?_⟩⟩⟩⟩
  · simp only [room]; omega
  · rw [nx_zero hg.pos]; rfl
  · exact (outL_one hg.pos).symm
  · have h3 := hx (n - 1) ns.length (by omega)
    have h4 := nx_next ns (n - 1)
    rw [show n - 1 + 1 = n by omega] at h4
    rw [show (1 : Int) = ((1 : Nat) : Int) from rfl, shlN rfl, h4]
    simp only [IntKind.bits]
    rw [show min 1 32 = 1 from rfl, Nat.pow_one, Nat.mod_eq_of_lt (by omega), Nat.mul_comm]
  · obtain ⟨k, hk, rfl⟩ := outL_get hc
    simp only [hc, Option.some.injEq, forall_eq']
    have h20 := hx n i (by omega)
    have hnx := nx_succ ns n i (by omega)
    have hkd : ns.getD i 0 = k := by rw [List.getD_eq_getElem?_getD, hk]; rfl
    rw [hkd] at hnx
    refine ⟨fun h => fun _ => ⟨⟨by omega, by omega⟩, fun _ _ => ⟨by omega, by omega, by omega, by omega, i + 1, by omega, ?_, rfl, ?_⟩⟩, fun h => ⟨by omega, i + 1, by omega, ?_, rfl, ?_⟩⟩
    · rw [hnx, if_pos (by omega), wr32]; omega
    · have : k = n := by omega
      subst this
      exact outL_set hk
    · rw [hnx, if_neg (by omega)]; rfl
    · exact (outL_skip hk (by omega)).symm
  · rw [Nat.add_sub_cancel, nx_wide ns n i (by omega)]
  · rw [wr32]; omega
  · exact outL_wide (by omega)
  · omega
  · exact outL_end (by omega) hg.pos
theorem ok_c17 (G : Gl) (m : Fz) (rel : Rel TT) (v : Value) (ns : List Nat) (v2 : Value) (es : List Nat) (hb : ∀ n ∈ ns, n < 256) (he : ∀ n ∈ es, n < 256) : cond_c17 G m rel v ns v2 es := by
  unfold cond_c17
  have e1 : nats (ints ns) = ns := nats_ints ns
  have e2 : lensOf (linedL ns) = ns := lensOf_lined ns
  have e3 : ∀ l : List Nat, nats (ints l) = l := nats_ints
  have e4 : lensOf (linedL ns) = ns := lensOf_lined ns
  simp only [br_d, br_i, br_n, rel_self, rel_add, true_and, and_true, inRange, inI64, Int.toNat_natCast, ints_len, e1, e2, e3]
  refine fun _ => ⟨hb, fun _ hno => .inl ⟨(), trivial⟩, fun y ho _ => ⟨ho, fun _ _ => ⟨fun hk => ⟨fun h1 => .inl ⟨(), trivial⟩, fun h1 => ?_⟩, fun hk => .inl ⟨(), trivial⟩⟩⟩⟩
  have hg : Good ns := ⟨ho.1, ho.2.1, ho.2.2, by have : kraft ns = 1048576 := by omega
                                                 rw [this]⟩
  refine ⟨(0, .slice none 0 0), ⟨Nat.zero_le _, by omega, fun j p hj => absurd hj (Nat.not_lt_zero _)⟩, ⟨rfl, rfl⟩, rfl, ⟨rfl, rfl⟩, fun x hx => ⟨fun h2 => ⟨by omega, by omega, fun k hk => ?_⟩, fun h2 => ?_⟩⟩
  · obtain ⟨n, hn, rfl⟩ := ints_get hk
    have hn256 := he n (List.mem_of_getElem? hn)
    have hw : IntKind.u64.wrap (n : Int) = (n : Int) := wrId rfl (by simp only [IntKind.bits]; omega)
    simp only [hk, Option.some.injEq, forall_eq', hw]
    refine ⟨fun h3 => .inl ⟨(), relLe.add _ _ _ _⟩, fun h3 => ⟨by omega, by omega, fun b => ⟨?_, rfl, ?_, fun z => ⟨by omega, (x.1 + 1, z), ⟨⟨by dsimp only; omega, by omega, ?_⟩, by dsimp only; omega⟩, ⟨rfl, rfl⟩, rfl, rfl, ?_⟩⟩⟩⟩
    · simp only [List.length_take]; omega
    · simp only [List.length_take, List.length_singleton, room]; omega
    · intro j p hj hp
      by_cases hji : j = x.1
      · rw [hji] at hp
        obtain rfl := Option.some.inj (hn.symm.trans hp)
        omega
      · exact hx.2.2 j p (by dsimp only at hj; omega) hp
    · dsimp only
      rw [take_succ hn]; simp [ints]
  · have hx1 : x.1 = es.length := by omega
    have he20 : ∀ n ∈ es, n ≤ 20 := fun n hn => by
      obtain ⟨j, hj, rfl⟩ := List.getElem_of_mem hn
      exact hx.2.2 j _ (by omega) (List.getElem?_eq_getElem hj)
    rw [hx1, List.take_length]
    exact ⟨rfl, fun _ => ⟨⟨hx.2.1, he20⟩, fun w _ _ => ⟨hg, fun z _ => .inr ⟨(z, w), ⟨hg, hx.2.1, he20⟩, rfl, rfl, rfl⟩⟩⟩⟩
theorem s16 (G : Gl) : SpecOK (CC G) 16 c16.pt := spec G (no_ok G) (fn := Tryz.f16) rfl NA c16 (fun x => a16 x.2.2.2) fun ⟨m, rel, v, l⟩ _ => Met.of (eq_c16 G m rel v l) (ok_c16 G m rel v l)
theorem s18 (G : Gl) : SpecOK (CC G) 18 c18.pt := spec G (no_ok G) (fn := Tryz.f18) rfl NA c18 (fun x => a18 x.2.2.2) fun ⟨m, rel, v, l⟩ _ => Met.of (eq_c18 G m rel v l) (ok_c18 G m rel v l)
theorem s98 (G : Gl) : SpecOK (CC G) 98 c98.pt := spec G (no_ok G) (fn := Tryz.f98) rfl NA c98 (fun x => a98 x.2.2.1 x.2.2.2) fun ⟨m, rel, v, n⟩ h => Met.of (eq_c98 G m rel v n) (ok_c98 G m rel v n h.1 h.2)
theorem s97 (G : Gl) : SpecOK (CC G) 97 c97.pt := spec G (no_ok G) (fn := Tryz.f97) rfl NA c97 (fun x => a97 x.2.2.2) fun ⟨m, rel, v, ns⟩ h => Met.of (eq_c97 G m rel v ns) (ok_c97 G m rel v ns h)
theorem s44 (G : Gl) : SpecOK (CC G) 44 c44.pt := spec G (no_ok G) (fn := Tryz.f44) rfl NA c44 (fun x => a44 x.2.2.2) fun ⟨m, rel, v, ns⟩ h => Met.of (eq_c44 G m rel v ns) (ok_c44 G m rel v ns h)
theorem s46 (G : Gl) : SpecOK (CC G) 46 c46.pt := spec G (no_ok G) (fn := Tryz.f46) rfl NA c46 (fun x => a46 x.2.2.2) fun ⟨m, rel, v, ns⟩ h => Met.of (eq_c46 G m rel v ns) (ok_c46 G m rel v ns h.1 h.2)
theorem b47_ok (G : Gl) : ∀ f pt, b47 f = some pt → SpecOK (CC G) f pt := by
  intro f pt h
  unfold b47 at h
  split at h
  · cases h; exact loc_ok (s98 G) _
  · cases h
theorem s47 (G : Gl) : SpecOK (CC G) 47 c47.pt := spec G (b47_ok G) (fn := Tryz.f47) rfl NA c47 (fun x => a47 x.2.2.2) fun ⟨m, rel, v, ns⟩ h => Met.of (eq_c47 G m rel v ns) (ok_c47 G m rel v ns h)
theorem b17_ok (G : Gl) : ∀ f pt, b17 f = some pt → SpecOK (CC G) f pt := by
  intro f pt h
  unfold b17 at h
  split at h
  · cases h; exact loc_ok (s44 G) _
  · cases h; exact loc_ok (s97 G) _
  · cases h; exact giv_ok (loc_ok (s46 G) _) _
  · cases h; exact loc_ok (s47 G) _
  · cases h
theorem s17 (G : Gl) : SpecOK (CC G) 17 c17.pt := spec G (b17_ok G) (fn := Tryz.f17) rfl NA c17 (fun x => a17 x.2.2.2.2.2) fun ⟨m, rel, v, ns, v2, es⟩ h => Met.of (eq_c17 G m rel v ns v2 es) (ok_c17 G m rel v ns v2 es h.1 h.2)
end Pc
/-
  What the laws of reading call.
-/
set_option linter.unusedVariables false
set_option maxRecDepth 100000
open Go Go.Vg Go.Proofs
namespace Pc
theorem b30_ok (G : Gl) : ∀ f pt, b30 f = some pt → SpecOK (CC G) f pt := by
  intro f pt h
  unfold b30 at h
  split at h
  · cases h; exact loc_ok (s16 G) _
  · cases h; exact loc_ok (s17 G) _
  · cases h; exact loc_ok (s18 G) _
  · cases h; exact loc_ok (s19 G) _
  · cases h; exact loc_ok (s20 G) _
  · cases h
end Pc
/-
  ReadTry and FnReadTry do what their contracts say.
-/
set_option linter.unusedVariables false
set_option maxRecDepth 100000
open Go Go.Vg Go.Proofs
namespace Pc
def c4 : Ctr TT where
  X := X3
  find a H := match a, H with
    | [.ro 36 vl l, .ro 5 v1 ls, .ro 5 v2 es, .ro 5 vb bs, .v (.bool big)], [.F m, .R rel] => some ⟨m, rel, vl, l, v1, nats ls, v2, nats es, vb, nats bs, big⟩
    | _, _ => none
  phi x := c3OK x
  args x := [.ro 36 x.vl x.l, .ro 5 x.v1 (ints x.ls), .ro 5 x.v2 (ints x.es), .ro 5 x.vb (ints x.bs), bv x.big]
  H x := fr2 x.m x.rel
  outs := [{ Y := fun _ => Rel TT, psi := fun x y => True, res := fun x y => bv true, H := fun x y => fr2 x.m y }]
noncomputable def b4 : Nat → Option (PT TT)
  | 22 => some (loc [some 36, some 90, some 97, some 5, none] c22.pt)
  | 23 => some (loc [some 36, some 36] c23.pt)
  | f => b30 f
def cond_c22 (G : Gl) (x : XR) : Prop :=
 ∀ x1 : (Nat), ∀ x2 : (Nat), (Value.slice (some (Addr.mk x2 0 none)) 0 0 = Value.slice (some (Addr.mk x2 0 none)) 0 0 ∧ (0 : Nat) = (0 : Nat)) ∧ 
 (room ((0 : Nat) + List.length (ints x.bs)) 1) ∧ 
 ∀ x3 : (Value), (x3 = x3 ∧ (0 : Nat) + List.length (ints x.bs) = List.length ([] ++ ints x.bs)) ∧ 
 ∀ x4 : (Nat → Option Obj), (True) ∧ 
 (x3 = x3 ∧ [] ++ ints x.bs = ints (nats ([] ++ ints x.bs))) ∧ 
 (x4 = x4) ∧ 
 (relLe x.rel x.rel) ∧ 
 ∀ x5 : (Nat), ((True) → 
 (x4 = x4) ∧ 
 (x1 = x1) ∧ (x1 = x1) ∧ (x1 = x1) ∧ (x1 = x1) ∧ (x1 = x1) ∧ ∀ x6 : (Nat), (x1 = x1) ∧ (x1 = x1) ∧ (x6 = x6) ∧ (x1 = x1) ∧ (x1 = x1) ∧ ∃ x7 : (List Nat), ∀ x8 : (Nat → Option Obj), (c53OK x7 (X53.mk (RS.mk x8 x.rel x1 x5 x6 x3 (nats (ints (nats ([] ++ ints x.bs)))) x.big 0 0 0 0 (Value.slice none 0 0) 0 (0 : Int) 0 0 (Value.slice none 0 0) 0 (List.replicate 512 (0 : Int)) (-1 : Int)) x.vl x.l x.vc x.vr (extraOf (rgL 0 x.extra)))) ∧ 
 (x1 = x1 ∧ Off.lit 0 = Off.lit 0) ∧ 
 (x.vl = x.vl ∧ x.l = x.l) ∧ 
 (x.vc = x.vc ∧ canonL x.lens = canonL x7) ∧ 
 (x.vr = x.vr ∧ rgL 0 x.extra = rgL 0 (extraOf (rgL 0 x.extra))) ∧ 
 (true = true) ∧ (x8 = x8) ∧ 
 (relLe x.rel x.rel) ∧ 
 (x1 = x1) ∧ 
 ((0 : Int) = (↑(0 : Nat) : Int)) ∧ 
 (x5 = x5 ∧ Off.lit 0 = Off.lit 0) ∧ 
 (Value.nilIface = Value.nilIface) ∧ (x6 = x6 ∧ Off.lit 0 = Off.lit 0) ∧ 
 ((0 : Int) = (↑(0 : Nat) : Int)) ∧ 
 ((0 : Int) = (↑(0 : Nat) : Int)) ∧ 
 (x.big = x.big) ∧ 
 (Value.slice none 0 0 = Value.slice none 0 0 ∧ Value.slice none 0 0 = Value.slice none 0 0 ∧ (0 : Nat) = (0 : Nat)) ∧ 
 ((0 : Int) = (0 : Int)) ∧ 
 ((0 : Int) = (↑(0 : Nat) : Int)) ∧ 
 (Value.pointer none = Value.pointer none) ∧ (x6 = x6 ∧ Off.lit 0 = Off.lit 0) ∧ 
 (Value.pointer none = Value.pointer none) ∧ (x5 = x5) ∧ 
 (x3 = x3 ∧ ints (nats ([] ++ ints x.bs)) = ints (nats (ints (nats ([] ++ ints x.bs))))) ∧ 
 ((0 : Int) = (↑(0 : Nat) : Int)) ∧ 
 ((-1 : Int) = (-1 : Int)) ∧ 
 (x6 = x6) ∧ 
 (x5 = x5 ∧ Off.lit 0 = Off.lit 0) ∧ 
 ((0 : Int) = (↑(0 : Nat) : Int)) ∧ 
 (Value.slice none 0 0 = Value.slice none 0 0 ∧ Value.slice none 0 0 = Value.slice none 0 0 ∧ (0 : Nat) = (0 : Nat)) ∧ 
 ((512 : Nat) = (512 : Nat) ∧ List.replicate 512 (0 : Int) = List.replicate 512 (0 : Int)) ∧ 
 ∀ x9 : (Y20 × RV), ((ps53 x7 (X53.mk (RS.mk x8 x.rel x1 x5 x6 x3 (nats (ints (nats ([] ++ ints x.bs)))) x.big 0 0 0 0 (Value.slice none 0 0) 0 (0 : Int) 0 0 (Value.slice none 0 0) 0 (List.replicate 512 (0 : Int)) (-1 : Int)) x.vl x.l x.vc x.vr (extraOf (rgL 0 x.extra))) x9.1 x9.2) → 
 (x8 = x8) ∧ 
 ∃ x10 : (Y20), (ps20 x x10) ∧ 
 (x9.1.gv = x10.gv ∧ x9.1.gl = x10.gl) ∧ 
 (wrong x9.1.st (List.length x9.1.gl) = wrong x10.st (List.length x10.gl)) ∧ 
 ((↑((8 : Nat) * List.length (nats (ints (nats ([] ++ ints x.bs)))) - x9.1.left) : Int) = (↑((8 : Nat) * List.length x.bs - x10.left) : Int)) ∧ 
 (x.m = x.m) ∧ (relLe x10.rel x9.1.rel) ∧ 
 (True)))
noncomputable def law_c22 (G : Gl) (x : XR) : VCT := fnx (CC G) (IN G (b22 G) NA) noAnn Tryz.f22 (c22.args x) (c22.H x) (outK true 2 (c22.ret x)) (c22.pan x)
theorem eq_c22 (G : Gl) (x : XR) : cond_c22 G x = (law_c22 G x).den := by kernel_rfl
def cond_c4 (G : Gl) (x : X3) : Prop :=
 ∀ x1 : (Nat → Option Obj), (True) ∧ 
 (x.vl = x.vl ∧ x.l = x.l) ∧ 
 (x1 = x1) ∧ 
 (relLe x.rel x.rel) ∧ 
 ∀ x2 : (Bool), ((True) → 
 (x1 = x1) ∧ 
 Br (!x2)
 (∃ x3 : (Rel TT), (True) ∧ 
 (true = true) ∧ (x.m = x.m) ∧ (relLe x3 x.rel) ∧ 
 (True))
 (Br (decide ((↑(List.length (ints x.ls)) : Int) > (2147483647 : Int)))
 (∃ x3 : (Rel TT), (True) ∧ 
 (true = true) ∧ (x.m = x.m) ∧ (relLe x3 x.rel) ∧ 
 (True))
 (Br (decide ((↑(List.length (ints x.es)) : Int) > (2147483647 : Int)))
 (∃ x3 : (Rel TT), (True) ∧ 
 (true = true) ∧ (x.m = x.m) ∧ (relLe x3 x.rel) ∧ 
 (True))
 (Br (decide ((↑(List.length (ints x.bs)) : Int) > (2147483647 : Int)))
 (∃ x3 : (Rel TT), (True) ∧ 
 (true = true) ∧ (x.m = x.m) ∧ (relLe x3 x.rel) ∧ 
 (True))
 (∀ x3 : (Nat → Option Obj), ((∀ (n : Nat), n ∈ Prod.fst (Prod.snd (Prod.snd (Prod.snd (x3, Prod.fst (Prod.snd (x1, x.rel, x.vl, x.l)), x.v1, nats (ints x.ls), x.v2, nats (ints x.es))))) → n < (256 : Nat)) ∧ ∀ (n : Nat), n ∈ Prod.snd (Prod.snd (Prod.snd (Prod.snd (Prod.snd (x3, Prod.fst (Prod.snd (x1, x.rel, x.vl, x.l)), x.v1, nats (ints x.ls), x.v2, nats (ints x.es)))))) → n < (256 : Nat)) ∧ 
 (x.v1 = x.v1 ∧ ints x.ls = ints (nats (ints x.ls))) ∧ 
 (x.v2 = x.v2 ∧ ints x.es = ints (nats (ints x.es))) ∧ 
 (x3 = x3) ∧ 
 (relLe x.rel x.rel) ∧ 
 (∀ x4 : (Unit), ((True) → 
 (x3 = x3) ∧ 
 ∀ x5 : (Nat → Option Obj), (True) ∧ 
 (x5 = x5) ∧ 
 (relLe x.rel x.rel) ∧ 
 ∀ x6 : (Unit), ((True) → 
 (x5 = x5) ∧ 
 ∃ x7 : (Rel TT), (True) ∧ 
 (true = true) ∧ (x.m = x.m) ∧ (relLe x7 x.rel) ∧ 
 (True)))) ∧
 (∀ x4 : (Value × Value), ((Good (nats (ints x.ls)) ∧ List.length (nats (ints x.es)) ≤ (30 : Nat) ∧ ∀ (n : Nat), n ∈ Prod.snd (Prod.snd (Prod.snd (Prod.snd (Prod.snd (x3, Prod.fst (Prod.snd (x1, x.rel, x.vl, x.l)), x.v1, nats (ints x.ls), x.v2, nats (ints x.es)))))) → n ≤ (20 : Nat)) → 
 (x3 = x3) ∧ 
 ∀ x5 : (Nat → Option Obj), (True) ∧ 
 (x.vl = x.vl ∧ x.l = x.l) ∧ 
 (x5 = x5) ∧ 
 (relLe x.rel x.rel) ∧ 
 ∀ x6 : (Bool), ((x6 = true → lightB (Prod.snd (Prod.snd (Prod.snd (x5, Prod.fst (Prod.snd (x3, Prod.fst (Prod.snd (x1, x.rel, x.vl, x.l)), x.v1, nats (ints x.ls), x.v2, nats (ints x.es))), x.vl, x.l))))) → 
 (x5 = x5) ∧ 
 Br (!x6)
 (∀ x7 : (Nat → Option Obj), (True) ∧ 
 (x7 = x7) ∧ 
 (relLe x.rel x.rel) ∧ 
 ∀ x8 : (Unit), ((True) → 
 (x7 = x7) ∧ 
 ∃ x9 : (Rel TT), (True) ∧ 
 (true = true) ∧ (x.m = x.m) ∧ (relLe x9 x.rel) ∧ 
 (True)))
 (Br (decide ((↑(List.length (ints x.bs)) : Int) > (300 : Int)))
 (∀ x7 : (Nat → Option Obj), (True) ∧ 
 (x7 = x7) ∧ 
 (relLe x.rel x.rel) ∧ 
 ∀ x8 : (Unit), ((True) → 
 (x7 = x7) ∧ 
 ∃ x9 : (Rel TT), (True) ∧ 
 (true = true) ∧ (x.m = x.m) ∧ (relLe x9 x.rel) ∧ 
 (True)))
 (∀ x7 : (Nat → Option Obj), (xrOK (XR.mk x7 x.rel x.vl x.l x4.1 (lensOf (canonL (nats (ints x.ls)))) x4.2 (extraOf (rgL 0 (nats (ints x.es)))) x.vb (nats (ints x.bs)) x.big)) ∧ 
 (x.vl = x.vl ∧ x.l = x.l) ∧ 
 (x4.1 = x4.1 ∧ canonL (nats (ints x.ls)) = canonL (lensOf (canonL (nats (ints x.ls))))) ∧ 
 (x4.2 = x4.2 ∧ rgL 0 (nats (ints x.es)) = rgL 0 (extraOf (rgL 0 (nats (ints x.es))))) ∧ 
 (x.vb = x.vb ∧ ints x.bs = ints (nats (ints x.bs))) ∧ 
 (x.big = x.big) ∧ 
 (x7 = x7) ∧ 
 (relLe x.rel x.rel) ∧ 
 (∀ x8 : (Unit), ((bad20 (XR.mk x7 x.rel x.vl x.l x4.1 (lensOf (canonL (nats (ints x.ls)))) x4.2 (extraOf (rgL 0 (nats (ints x.es)))) x.vb (nats (ints x.bs)) x.big)) → 
 (x7 = x7) ∧ 
 ∀ x9 : (Nat → Option Obj), (True) ∧ 
 (x9 = x9) ∧ 
 (relLe x.rel x.rel) ∧ 
 ∀ x10 : (Unit), ((True) → 
 (x9 = x9) ∧ 
 ∃ x11 : (Rel TT), (True) ∧ 
 (true = true) ∧ (x.m = x.m) ∧ (relLe x11 x.rel) ∧ 
 (True)))) ∧
 (∀ x8 : (Y20), ((ps20 (XR.mk x7 x.rel x.vl x.l x4.1 (lensOf (canonL (nats (ints x.ls)))) x4.2 (extraOf (rgL 0 (nats (ints x.es)))) x.vb (nats (ints x.bs)) x.big) x8) → 
 (x7 = x7) ∧ 
 ∀ x9 : (Nat → Option Obj), (c21OK (XR.mk x9 x8.rel x.vl x.l x4.1 (lensOf (canonL (nats (ints x.ls)))) x4.2 (extraOf (rgL 0 (nats (ints x.es)))) x.vb (nats (ints x.bs)) x.big)) ∧ 
 (x.vl = x.vl ∧ x.l = x.l) ∧ 
 (x4.1 = x4.1 ∧ canonL (nats (ints x.ls)) = canonL (lensOf (canonL (nats (ints x.ls))))) ∧ 
 (x4.2 = x4.2 ∧ rgL 0 (nats (ints x.es)) = rgL 0 (extraOf (rgL 0 (nats (ints x.es))))) ∧ 
 (x.vb = x.vb ∧ ints x.bs = ints (nats (ints x.bs))) ∧ 
 (x.big = x.big) ∧ 
 (x9 = x9) ∧ 
 (relLe x8.rel x8.rel) ∧ 
 ∀ x10 : (Y20), ((ps20 (XR.mk x9 x8.rel x.vl x.l x4.1 (lensOf (canonL (nats (ints x.ls)))) x4.2 (extraOf (rgL 0 (nats (ints x.es)))) x.vb (nats (ints x.bs)) x.big) x10) → 
 (x9 = x9) ∧ 
 ∀ x11 : (Nat → Option Obj), (True) ∧ 
 (x11 = x11) ∧ 
 (relLe x10.rel x10.rel) ∧ 
 ∀ x12 : (Unit), ((True) → 
 (x11 = x11) ∧ 
 Br (wrong x10.st (List.length x10.gl) == wrong x8.st (List.length x8.gl))
 (Br ((↑((8 : Nat) * List.length (nats (ints x.bs)) - x10.left) : Int) == (↑((8 : Nat) * List.length (nats (ints x.bs)) - x8.left) : Int))
 (∀ x13 : (Nat → Option Obj), (alikeOK x10.rel x10.gl x8.gl) ∧ 
 (x10.gv = x10.gv ∧ x10.gl = x10.gl) ∧ 
 (x8.gv = x8.gv ∧ x8.gl = x8.gl) ∧ 
 (x13 = x13) ∧ 
 (relLe x10.rel x10.rel) ∧ 
 ∀ x14 : (Unit), ((True) → 
 (x13 = x13) ∧ 
 ∃ x15 : (Rel TT), (True) ∧ 
 (true = true) ∧ (x.m = x.m) ∧ (relLe x15 x10.rel) ∧ 
 (True)))
 (∃ x13 : (Rel TT), (True) ∧ 
 (false = true) ∧ 
 (x.m = x.m) ∧ (relLe x13 x10.rel) ∧ 
 (True)))
 (∃ x13 : (Rel TT), (True) ∧ 
 (false = true) ∧ 
 (x.m = x.m) ∧ (relLe x13 x10.rel) ∧ 
 (True))))))))))))))))
noncomputable def law_c4 (G : Gl) (x : X3) : VCT := fnx (CC G) (IN G b4 NA) noAnn Tryz.f4 (c4.args x) (c4.H x) (outK true 2 (c4.ret x)) (c4.pan x)
theorem eq_c4 (G : Gl) (x : X3) : cond_c4 G x = (law_c4 G x).den := by kernel_rfl
theorem ok_c22 (G : Gl) (x : XR) (h : c21OK x) : cond_c22 G x := by
  unfold cond_c22
  have e3 : ∀ l : List Nat, nats (ints l) = l := nats_ints
  have hbl : x.bs.length ≤ 300 := h.ok.2.2.2.2.1
  simp only [e3, List.nil_append, extraOf_rgL, rel_self, true_and, and_true, and_self, ints_len, Nat.zero_add]
  refine fun rb b2 => ⟨⟨by omega, by omega⟩, fun v3 m4 sb _ bb => ⟨x.lens, fun m8 => ⟨⟨rs_init h.ok.2.2.2.1 hbl, rfl, h.ok, h.run⟩, rfl, rfl, rfl, rfl, rfl, rfl, rfl, fun y hy => ⟨y.1, ⟨hy.ps.run, hy.ps.its, hy.ps.rel, hy.ps.left, hy.ps.len⟩, ⟨rfl, rfl⟩, rfl, rfl, relLe.refl _⟩⟩⟩⟩
theorem b22_ok (G : Gl) : ∀ f pt, b22 G f = some pt → SpecOK (CC G) f pt := by
  intro f pt h
  unfold b22 at h
  split at h
  · cases h; exact giv_ok (loc_ok (s52 G) _) _
  · cases h; exact exPT_ok [] fun lens => loc_ok (s53t G lens) _
  · cases h
theorem s22 (G : Gl) : SpecOK (CC G) 22 c22.pt := spec G (b22_ok G) (fn := Tryz.f22) rfl NA c22 (fun _ => noAnn) fun x h => Met.of (eq_c22 G x) (ok_c22 G x h)
theorem ok_c4 (G : Gl) (x : X3) (h : c3OK x) : cond_c4 G x := by
  unfold cond_c4
  have e3 : ∀ l : List Nat, nats (ints l) = l := nats_ints
  simp only [e3, lensOf_canon, extraOf_rgL, rel_self, true_and, and_true, and_self, ints_len]
  intro m1 b2 _
  have fin : ∀ r : Rel TT, ∃ x3 : Rel TT, relLe x3 r := fun r => ⟨r, relLe.refl _⟩
  refine br_mk (fun _ => fin _) fun _ => br_mk (fun _ => fin _) fun _ => br_mk (fun _ => fin _) fun _ => br_mk (fun _ => fin _) fun _ m3 => ⟨⟨h.ls, h.es⟩, fun _ _ _ => fun _ _ => fin _, fun y4 hg m5 b6 hl => br_mk (fun _ => fun _ _ _ => fin _) fun h6 => br_mk (fun _ => fun _ _ _ => fin _) fun h300 m7 => ?_⟩
  have hx3 : x.bs.length ≤ 300 := by
    have := of_decide_eq_false h300
    omega
  have hlb : lightB x.l := hl (by simpa using h6)
  refine ⟨⟨hg.1, hg.2.1, hg.2.2, h.bs, hx3, hlb, h.n⟩, fun _ _ _ _ _ => fin _, fun y8 h8 m9 => ⟨⟨⟨hg.1, hg.2.1, hg.2.2, h.bs, hx3, hlb, h.n⟩, fun hb => Option.some_ne_none _ (h8.run.symm.trans hb)⟩, fun y10 h10 => ?_⟩⟩
  have he := Option.some.inj (h10.run.symm.trans h8.run)
  have e1 : y10.its = y8.its := congrArg (fun z => z.1) he
  have e2 : y10.st = y8.st := congrArg (fun z => z.2.1) he
  have e4 : y10.left = y8.left := congrArg (fun z => z.2.2) he
  have k8 : itsOK y10.rel y8.its y8.gl := itsOK_mono h10.rel h8.its
  have k10 : itsOK y10.rel y8.its y10.gl := e1 ▸ h10.its
  have hlen : y10.gl.length = y8.gl.length := (itsOK_len k10).symm.trans (itsOK_len k8)
  have h60 : y8.gl.length ≤ 60 := Nat.le_trans h8.len hlb.1
  exact fun _ _ _ => br_mk (fun _ => br_mk (fun _ => fun _ => ⟨⟨by omega, y8.its, k10, k8⟩, fun _ _ => fin _⟩) (fun hc => absurd hc (by rw [e4]; simp))) (fun hc => absurd hc (by rw [e2, hlen]; simp))
theorem b4_ok (G : Gl) : ∀ f pt, b4 f = some pt → SpecOK (CC G) f pt := by
  intro f pt h
  unfold b4 at h
  split at h
  · cases h; exact loc_ok (s22 G) _
  · cases h; exact loc_ok (s23 G) _
  · exact b30_ok G _ pt h
theorem s4 (G : Gl) : SpecOK (CC G) 4 c4.pt := spec G (b4_ok G) (fn := Tryz.f4) rfl NA c4 (fun _ => noAnn) fun x h => Met.of (eq_c4 G x) (ok_c4 G x h)
end Pc
/-
  What a row's arguments and listed variables are, for the generator: slices of bytes, slices of parts, sentinel errors.
-/
set_option linter.unusedVariables false
set_option maxRecDepth 100000
open Go Go.Vg Go.Proofs Go.ChangeShapes Go.WideShapes Go.ChangeAt Go.RowKit
namespace Pc
theorem no_own {w : World} : ∀ e x l, roOK (T := TT) (fun _ => False) w e x l → roOK (T := TT) (fun _ => False) w e x l := fun _ _ _ h => h
/-- What is known of rows ahead of a call: all that can be read. -/
def relW (w : World) : Rel TT := fun e x l => roOK (fun _ => False) w e x l
def byteQ (x : Int) : Prop := 0 ≤ x ∧ x < 256
theorem row_of {w : World} {e : TypeId} {a : Addr} {len cap : Nat} (hc : len ≤ cap) (hm : cap ≤ maxLen) (sz : 0 < szE TT e)
    (h : ∀ i, i < len → ∃ x : TT.El e, w.cells? 0 (a.add (i * szE TT e)) (szE TT e) = some ((TT.enc e).enc x)) (Q : TT.El e → Prop)
    (hQ : ∀ i (x : TT.El e), i < len → w.cells? 0 (a.add (i * szE TT e)) (szE TT e) = some ((TT.enc e).enc x) → Q x) :
    ∃ l : List (TT.El e), l.length = len ∧ (∀ x ∈ l, Q x) ∧ roOK (T := TT) (fun _ => False) w e (.slice (some a) len cap) l := by
  have key : ∀ n, n ≤ len → ∃ l : List (TT.El e), l.length = n ∧ (∀ x ∈ l, Q x) ∧ ∀ j u, (l.flatMap (TT.enc e).enc)[j]? = some u → w.cell? (a.add j) = some u := by
    intro n
    induction n with
    | zero => exact fun _ => ⟨[], rfl, fun x hx => by simp at hx, fun j u hj => by simp at hj⟩
    | succ n ih =>
      intro hn
      obtain ⟨l, h1, h2, h3⟩ := ih (by omega)
      obtain ⟨x, hx⟩ := h n (by omega)
      refine ⟨l ++ [x], by simp [h1], fun y hy => ?_, fun j u hj => ?_⟩
      · rcases List.mem_append.1 hy with hy | hy
        · exact h2 y hy
        · obtain rfl : y = x := by simpa using hy
          exact hQ n y (by omega) hx
      · rw [List.flatMap_append, List.flatMap_singleton] at hj
        have hfl : (l.flatMap (TT.enc e).enc).length = n * szE TT e := by rw [enc_flat_length, h1]
        by_cases hjn : j < n * szE TT e
        · rw [List.getElem?_append_left (by rw [hfl]; exact hjn)] at hj
          exact h3 j u hj
        · rw [List.getElem?_append_right (by rw [hfl]; omega), hfl] at hj
          obtain ⟨_, h4, h5⟩ := World.cells?_some hx
          have hlt : j - n * szE TT e < szE TT e := by
            have := (List.getElem?_eq_some_iff.1 hj).1
            omega
          have := h5 (j - n * szE TT e) hlt
          rw [hj, addr_add_add, show n * szE TT e + (j - n * szE TT e) = j by omega] at this
          exact this
  obtain ⟨l, h1, h2, h3⟩ := key len (Nat.le_refl _)
  refine ⟨l, h1, h2, some a, cap, by rw [h1], by omega, hm, fun h0 => ⟨a, rfl, fun h => h, ?_, h3⟩⟩
  obtain ⟨x, hx⟩ := h 0 (by omega)
  have := World.cells?_block hx sz
  simpa [Addr.add] using this
variable {H : Type} {enc : TypeId × Value → H} {W : World}
theorem open_bytes {sp : Nat → Bool} {held : Bool} {v : Value} {d : DataW H} {ps : List MemPlace} (hv : ∃ A n c, v = .slice A n c) (h : DataW.Trod enc Tryz.prog W 0 sp held 23 v d ps) :
    ∃ bs : List Nat, (∀ b ∈ bs, b < 256) ∧ roOK (T := TT) (fun _ => False) W 5 v (ints bs) := by
  obtain ⟨A, n, c, rfl⟩ := hv
  obtain ⟨fuel, hf⟩ := h
  rcases DataW.trod_slice Tryz.underlying23 hf with ⟨h1, _⟩ | ⟨a, len, cap, elems, rest, m, _, h1, _, _, hl, hm, hlen, hel, _, _⟩
  · simp only [Value.cells] at h1
    have h1 : Value.slice A n c = .slice none 0 0 := by simpa using h1
    rw [h1]
    exact ⟨[], fun b hb => by simp at hb, roOK_nil _ _ _⟩
  · have h1 : Value.slice A n c = .slice (some a) len cap := by simpa [Value.cells] using h1
    rw [h1]
    have hce : Tryz.prog.cellsOf 5 = 1 := by kernel_rfl
    have each : ∀ i, i < len → ∃ x : Int, W.cells? 0 (a.add (i * szE TT 5)) (szE TT 5) = some [.int .u8 x] ∧ byteQ x := fun i hi => by
      have hE := hel i hi
      rw [List.getElem?_eq_getElem (by omega), hce, Option.bind_eq_some_iff] at hE
      obtain ⟨cs, h2, h3⟩ := hE
      obtain ⟨k, rfl, _, hw⟩ := DataW.trod_int Tryz.underlying5 h3
      have := Go.bounds_u8 hw
      exact ⟨k, h2, this.1, Int.lt_of_le_of_lt this.2 (by decide)⟩
    obtain ⟨l, h2, h3, h4⟩ : ∃ l : List Int, l.length = len ∧ (∀ x ∈ l, byteQ x) ∧ roOK (T := TT) (fun _ => False) W 5 (.slice (some a) len cap) l := row_of (w := W) (e := 5) hl hm (by decide) (fun i hi => ⟨_, (each i hi).choose_spec.1⟩) (fun x => byteQ x) (fun i x hi hx => by
      obtain ⟨y, h5, h6⟩ := each i hi
      have h7 : ([Value.int .u8 x] : List Value) = [Value.int .u8 y] := Option.some.inj (hx.symm.trans h5)
      injection h7 with h7 _
      injection h7 with _ h7
      exact h7 ▸ h6)
    refine ⟨nats l, fun b hb => ?_, ?_⟩
    · unfold nats at hb
      rw [List.mem_map] at hb
      obtain ⟨x, hx, rfl⟩ := hb
      have := (h3 x hx).1
      have := (h3 x hx).2
      omega
    · have : ints (nats l) = l := ints_nats fun x hx => (h3 x hx).1
      rw [this]
      exact h4
theorem slice_val {sp : Nat → Bool} {held : Bool} {t e : TypeId} {v : Value} {d : DataW H} {ps : List MemPlace} (ht : Tryz.prog.underlying t = some (.slice e)) (hval : ∀ cs, v.cells.toList = cs → cs.length = 1 → cs = [v]) (h : DataW.Trod enc Tryz.prog W 0 sp held t v d ps) : ∃ A n c, v.cells.toList = [.slice A n c] := by
  obtain ⟨fuel, hf⟩ := h
  rcases DataW.trod_slice ht hf with ⟨h1, _⟩ | ⟨a, len, cap, elems, rest, m, _, h1, _⟩
  · exact ⟨_, _, _, h1⟩
  · exact ⟨_, _, _, h1⟩
def putQ (p : Pt) : Prop := 0 ≤ p.n
theorem open_puts {sp : Nat → Bool} {held : Bool} {v : Value} {d : DataW H} {ps : List MemPlace} (hv : ∃ A n c, v = .slice A n c) (h : DataW.Trod enc Tryz.prog W 0 sp held 22 v d ps) :
    ∃ l : List Pt, (∀ p ∈ l, 0 ≤ p.n) ∧ roOK (T := TT) (fun _ => False) W 36 v l := by
  obtain ⟨A, n, c, rfl⟩ := hv
  obtain ⟨fuel, hf⟩ := h
  rcases DataW.trod_slice Tryz.underlying22 hf with ⟨h1, _⟩ | ⟨a, len, cap, elems, rest, m, _, h1, _, _, hl, hm, hlen, hel, _, _⟩
  · simp only [Value.cells] at h1
    have h1 : Value.slice A n c = .slice none 0 0 := by simpa using h1
    rw [h1]
    exact ⟨[], fun b hb => by simp at hb, roOK_nil _ _ _⟩
  · have h1 : Value.slice A n c = .slice (some a) len cap := by simpa [Value.cells] using h1
    rw [h1]
    have hce : Tryz.prog.cellsOf 36 = 4 := by kernel_rfl
    have h3c : Tryz.prog.cellsOf 3 = 1 := by kernel_rfl
    have h34 : Tryz.prog.cellsOf 34 = 1 := by kernel_rfl
    have h23 : Tryz.prog.cellsOf 23 = 1 := by kernel_rfl
    have each : ∀ i, i < len → ∃ p : Pt, W.cells? 0 (a.add (i * szE TT 36)) (szE TT 36) = some [.int .i64 p.kind, .int .u64 p.v, .int .u64 p.n, .slice p.s.A p.s.n p.s.cap] ∧ putQ p := fun i hi => by
      have hE := hel i hi
      rw [List.getElem?_eq_getElem (by omega), hce, Option.bind_eq_some_iff] at hE
      obtain ⟨cs, h2, h3⟩ := hE
      obtain ⟨y0, y1, y2, y3, k, _, hcl, g0, g1, g2, g3⟩ := Go.Joins.trod_struct4 Tryz.underlying36 h3
      rw [hce] at hcl
      match cs, hcl with
      | [c0, c1, c2, c3], _ =>
        dsimp only at g0 g1 g2 g3
        rw [h3c] at g0
        rw [h34] at g1 g2
        rw [h23] at g3
        obtain ⟨k0, e0, _, w0⟩ := DataW.trod_int Tryz.underlying3 g0
        obtain ⟨k1, e1, _, w1⟩ := DataW.trod_int Tryz.underlying34 g1
        obtain ⟨k2, e2, _, w2⟩ := DataW.trod_int Tryz.underlying34 g2
        have e3 : ∃ A n c, c3 = .slice A n c := by
          rcases DataW.trod_slice Tryz.underlying23 g3 with ⟨h1, _⟩ | ⟨a, len, cap, elems, rest, m, _, h1, _⟩
          · exact ⟨_, _, _, by simpa using h1⟩
          · exact ⟨_, _, _, by simpa using h1⟩
        obtain ⟨A3, n3, c3', rfl⟩ := e3
        have f0 : c0 = .int .i64 k0 := by simpa using e0
        have f1 : c1 = .int .u64 k1 := by simpa using e1
        have f2 : c2 = .int .u64 k2 := by simpa using e2
        subst f0 f1 f2
        exact ⟨⟨k0, k1, k2, ⟨A3, n3, c3'⟩⟩, h2, (Go.bounds_u64 w2).1⟩
    obtain ⟨l, h2, h3, h4⟩ : ∃ l : List Pt, l.length = len ∧ (∀ x ∈ l, putQ x) ∧ roOK (T := TT) (fun _ => False) W 36 (.slice (some a) len cap) l := row_of (w := W) (e := 36) hl hm (by decide) (fun i hi => ⟨_, (each i hi).choose_spec.1⟩) (fun x => putQ x) (fun i x hi hx => by
      obtain ⟨y, h5, h6⟩ := each i hi
      have h7 : EncPut.enc x = EncPut.enc y := Option.some.inj (hx.symm.trans h5)
      have h8 : (EncPut.enc x)[2]? = (EncPut.enc y)[2]? := congrArg (fun l => l[2]?) h7
      have h9 : some (Value.int .u64 (Pt.n x)) = some (Value.int .u64 (Pt.n y)) := h8
      injection h9 with h9
      injection h9 with _ h9
      exact (show 0 ≤ Pt.n x from h9 ▸ h6))
    exact ⟨l, h3, h4⟩
theorem row313 (u : TypeId) (h : Tryz.prog.typeName? 3 u = some "*errors.errorString") : u = 313 :=
  have star : "*" ++ "errors.errorString" = "*errors.errorString" := by decide
  typeName_ptr_named (nm := "errors.errorString") (by rw [star]; kernel_rfl) (by kernel_rfl) (by decide) u (by rw [star]; exact h)
theorem gE : Tryz.prog.globalNamed "io.EOF" = some 0 := by kernel_rfl
theorem gU : Tryz.prog.globalNamed "io.ErrUnexpectedEOF" = some 2 := by kernel_rfl
theorem gS : Tryz.prog.globalNamed "io.ErrShortBuffer" = some 3 := by kernel_rfl
theorem tE : (Tryz.prog.globals[0]?).map (·.type) = some 151 := by kernel_rfl
theorem tU : (Tryz.prog.globals[2]?).map (·.type) = some 151 := by kernel_rfl
theorem tS : (Tryz.prog.globals[3]?).map (·.type) = some 151 := by kernel_rfl
theorem c334 : Tryz.prog.cellsOf 334 = 1 := by kernel_rfl
theorem c9 : Tryz.prog.cellsOf 9 = 1 := by kernel_rfl
abbrev laid3 : List (String × DataW Unit) := [("io.ErrShortBuffer", Proofs.YtdeidljffgahkaaGreatDoor.Rows.laid_io_ErrShortBuffer), ("io.EOF", Proofs.YtdeidljffgahkaaGreatDoor.Rows.laid_io_EOF), ("io.ErrUnexpectedEOF", Proofs.YtdeidljffgahkaaGreatDoor.Rows.laid_io_ErrUnexpectedEOF)]
theorem cell_of_var {n : String} {g : Nat} {v : Value} (hg : Tryz.prog.globalNamed n = some g) (h : W.var? Tryz.prog n = some #[v]) : W.cell? ⟨g, 0, none⟩ = some v ∧ g < W.heap.size := by
  have h1 := World.var?_cell hg h 0
  have h1 : W.cell? ⟨g, 0, none⟩ = some v := by simpa using h1
  refine ⟨h1, ?_⟩
  have h2 : W.cells? 0 ⟨g, 0, none⟩ 1 = some [v] := cells?_one (Nat.zero_le _) h1
  exact World.cells?_block h2 (by decide)
/-- What the listed variables hold. -/
theorem globs (hL : laidMetH Tryz.prog laid3 W) : ∃ G : Gl, ∀ g v, (g, v) ∈ (CC G).glob → W.cell? ⟨g, 0, none⟩ = some v ∧ v.oneCell' = true ∧ g < W.heap.size := by
  rw [MakeChecks.laidMetH_plain _ _ _ (by kernel_rfl)] at hL
  obtain ⟨aS, _, hS, _⟩ := laid_sentinel hL gS tS Tryz.underlying151 row313 Tryz.underlying313 Tryz.underlying334 rfl rfl Tryz.underlying9 c334 c9
  obtain ⟨aE, _, hE, _⟩ := laid_sentinel hL.tail gE tE Tryz.underlying151 row313 Tryz.underlying313 Tryz.underlying334 rfl rfl Tryz.underlying9 c334 c9
  obtain ⟨aU, _, hU, _⟩ := laid_sentinel hL.tail.tail gU tU Tryz.underlying151 row313 Tryz.underlying313 Tryz.underlying334 rfl rfl Tryz.underlying9 c334 c9
  refine ⟨⟨aE, aU, aS⟩, fun g v hv => ?_⟩
  have hv : (g, v) ∈ [(0, errV aE), (2, errV aU), (3, errV aS)] := hv
  simp only [List.mem_cons, List.not_mem_nil, or_false, Prod.mk.injEq] at hv
  rcases hv with ⟨rfl, rfl⟩ | ⟨rfl, rfl⟩ | ⟨rfl, rfl⟩
  · exact ⟨(cell_of_var gE hE).1, rfl, (cell_of_var gE hE).2⟩
  · exact ⟨(cell_of_var gU hU).1, rfl, (cell_of_var gU hU).2⟩
  · exact ⟨(cell_of_var gS hS).1, rfl, (cell_of_var gS hS).2⟩
end Pc
/-
  The whole call of FnReadTry.
-/
set_option linter.unusedVariables false
set_option maxRecDepth 100000
open Go Go.Vg Go.Proofs Go.ChangeShapes Go.WideShapes Go.ChangeAt Go.RowKit
namespace Pc
def cond_t4 (fz : Fz) (rel : Rel TT) (v0 : Value) (l0 : List Pt) (v1 : Value) (l1 : List Nat) (v2 : Value) (l2 : List Nat) (v3 : Value) (l3 : List Nat) (b4 : Bool) : Prop :=
 (c3OK (X3.mk fz rel v0 l0 v1 (nats (ints l1)) v2 (nats (ints l2)) v3 (nats (ints l3)) b4)) ∧ 
 (v0 = v0 ∧ l0 = l0) ∧ 
 (v1 = v1 ∧ ints l1 = ints (nats (ints l1))) ∧ 
 (v2 = v2 ∧ ints l2 = ints (nats (ints l2))) ∧ 
 (v3 = v3 ∧ ints l3 = ints (nats (ints l3))) ∧ 
 (b4 = b4) ∧ 
 (fz = fz) ∧ 
 (relLe rel rel) ∧ 
 ∀ x1 : (Rel TT), ((True) → 
 (Value.bool true = Value.bool true))
noncomputable def law_t4 (fz : Fz) (rel : Rel TT) (v0 : Value) (l0 : List Pt) (v1 : Value) (l1 : List Nat) (v2 : Value) (l2 : List Nat) (v3 : Value) (l3 : List Nat) (b4 : Bool) : VCT := c4.pt [.ro 36 v0 l0, .ro 5 v1 (ints l1), .ro 5 v2 (ints l2), .ro 5 v3 (ints l3), bv b4] [.F fz, .R rel] (fun r _ => .leaf (r.toV = .bool true)) (fun _ _ => .ff "it panics")
theorem eq_t4 (fz : Fz) (rel : Rel TT) (v0 : Value) (l0 : List Pt) (v1 : Value) (l1 : List Nat) (v2 : Value) (l2 : List Nat) (v3 : Value) (l3 : List Nat) (b4 : Bool) : cond_t4 fz rel v0 l0 v1 l1 v2 l2 v3 l3 b4 = (law_t4 fz rel v0 l0 v1 l1 v2 l2 v3 l3 b4).den := by kernel_rfl
theorem ok_t4 (fz : Fz) (rel : Rel TT) (v0 : Value) (l0 : List Pt) (v1 : Value) (l1 : List Nat) (v2 : Value) (l2 : List Nat) (v3 : Value) (l3 : List Nat) (b4 : Bool) (h0 : ∀ p ∈ l0, 0 ≤ p.n) (h1 : ∀ b ∈ l1, b < 256) (h2 : ∀ b ∈ l2, b < 256) (h3 : ∀ b ∈ l3, b < 256) : cond_t4 fz rel v0 l0 v1 l1 v2 l2 v3 l3 b4 := by
  unfold cond_t4
  have e3 : ∀ l : List Nat, nats (ints l) = l := nats_ints
  simp only [e3, rel_self, and_true, and_self, implies_true]
  exact ⟨h1, h2, h3, h0⟩
theorem walk4 (G : Gl) (w : World) (hg : ∀ g v, (g, v) ∈ (CC G).glob → w.cell? ⟨g, 0, none⟩ = some v ∧ v.oneCell' = true ∧ g < w.heap.size) (v0 : Value) (l0 : List Pt) (v1 : Value) (l1 : List Nat) (v2 : Value) (l2 : List Nat) (v3 : Value) (l3 : List Nat) (b4 : Bool) (h0 : ∀ p ∈ l0, 0 ≤ p.n) (h1 : ∀ b ∈ l1, b < 256) (h2 : ∀ b ∈ l2, b < 256) (h3 : ∀ b ∈ l3, b < 256) (r0 : roOK (T := TT) (fun _ => False) w 36 v0 l0) (r1 : roOK (T := TT) (fun _ => False) w 5 v1 (ints l1)) (r2 : roOK (T := TT) (fun _ => False) w 5 v2 (ints l2)) (r3 : roOK (T := TT) (fun _ => False) w 5 v3 (ints l3)) :
    Calls Tryz.prog 4 #[v0, v1, v2, v3, .bool b4] w fun e w' => e = .returned (.bool true) ∧ Below w.heap.size w w' :=
  top_known (s4 G) [.ro 36 v0 l0, .ro 5 v1 (ints l1), .ro 5 v2 (ints l2), .ro 5 v3 (ints l3), bv b4] (w := w) (relW w) hg (fun _ _ _ h => h) ⟨r0, r1, r2, r3, rfl, trivial⟩ (.bool true)
    (Met.of (eq_t4 (fun _ => none) (relW w) v0 l0 v1 l1 v2 l2 v3 l3 b4) (ok_t4 (fun _ => none) (relW w) v0 l0 v1 l1 v2 l2 v3 l3 b4 h0 h1 h2 h3))
end Pc
