/-
  What 'laws.FnBzipLevels' runs through, read by the generator (Vg1 .. Vg21): the conditions, written out, and met.
-/
import Derived.Test.YtohddhedejilfaaVg21
import Derived.Test.YtohddhedejilfaaProg
set_option linter.unusedVariables false
set_option maxRecDepth 100000
open Go Go.Vg Go.Proofs
namespace Bz
def EncInt (k : IntKind) : Enc Int where
  enc n := [.int k n]
  dec | [.int k' n] => if k' = k then some n else none
      | _ => none
  sz := 1
  len _ := rfl
  one := by intro x v h; simp at h; subst h; rfl
  dec_ok := by
    intro l x h
    split at h
    · split at h
      · rename_i hk; subst hk; simp at h; subst h; rfl
      · cases h
    · cases h
def EncCode : Enc (Int × Int × Int × Int) where
  enc x := [.int .u32 x.1, .int .u32 x.2.1, .int .u32 x.2.2.1, .int .u32 x.2.2.2]
  dec | [.int .u32 a, .int .u32 b, .int .u32 c, .int .u32 d] => some (a, b, c, d)
      | _ => none
  sz := 4
  len _ := rfl
  one := by intro x v h; simp at h; rcases h with rfl | rfl | rfl | rfl <;> rfl
  dec_ok := by
    intro l x h
    split at h
    · cases h; rfl
    · cases h
def Pk : Nat → (α : Type) × Enc α
  | 62 => ⟨_, EncCode⟩
  | 5 => ⟨_, EncInt .u8⟩
  | 48 => ⟨_, EncInt .u32⟩
  | _ => ⟨_, EncInt .i64⟩
def TT : Tys := { El := fun e => (Pk e).1, enc := fun e => (Pk e).2 }
def nilS : Seg TT := .c (.v (.slice none 0 0))
def i0 (k : IntKind) : Seg TT := .c (.v (.int k 0))
def by0 (n : Nat) : Seg TT := .r 5 n (List.replicate n (0 : Int))
def z45 : List (Seg TT) := [i0 .i64, .c (.v .nilIface), i0 .u64, i0 .u64, .c (.v (.bool false)), by0 512, i0 .i64]
def z53 : List (Seg TT) := [nilS, i0 .i64, i0 .u8, i0 .i64]
def z57 : List (Seg TT) := [nilS, nilS, nilS]
def z60 : List (Seg TT) := [by0 256, i0 .i64, nilS, nilS, i0 .i64]
def z70 : List (Seg TT) := (List.replicate 6 [nilS, i0 .u32, i0 .u32]).flatten
def z72 : List (Seg TT) := [i0 .i64, i0 .i64] ++ z45 ++ [.c (.v .nilIface), i0 .i64, .c (.v (.bool false)), i0 .u32, i0 .u32, i0 .u32, by0 256] ++ z53 ++ z57 ++ z60 ++ [nilS, nilS, nilS]
  ++ List.replicate 6 (.r 62 258 (List.replicate 258 ((0, 0, 0, 0) : Int × Int × Int × Int))) ++ List.replicate 6 nilS ++ z70
def zt : Nat → Option (List (Seg TT))
  | 72 => some z72
  | 45 => some z45
  | 53 => some z53
  | 33 => some [nilS, i0 .i64, i0 .i8]
  | 37 => some [i0 .i64]
  | 76 => some [i0 .i64, .c (.v (.string ⟨#[]⟩)), .c (.v (.string ⟨#[]⟩))]
  | 20 => some [.c (.v .nilIface)]
  | 5 => some [i0 .u8]
  | _ => none
noncomputable def CC : Ctx TT := { P := Try.prog, zt := zt, glob := [] }
noncomputable def noAnn : Ann TT := fun _ _ => none
noncomputable def body : Nat → Option (Func × Ann TT)
  | 4 => some (Try.f4, noAnn)
  | 5 => some (Try.f5, noAnn)
  | 6 => some (Try.f6, noAnn)
  | 7 => some (Try.f7, noAnn)
  | 8 => some (Try.f8, noAnn)
  | 9 => some (Try.f9, noAnn)
  | 10 => some (Try.f10, noAnn)
  | _ => none

def cond3 (n : Int) : Prop :=
  ∀ x1 : (Nat), ∀ x2 : (Nat), (x2 = x2) ∧ ∀ x3 : (Nat), (x3 = x3) ∧ (x3 = x3) ∧ (x3 = x3) ∧ (x3 = x3) ∧ (x3 = x3) ∧ (x3 = x3) ∧ (x3 = x3) ∧ (x3 = x3) ∧ (x3 = x3) ∧ (x3 = x3) ∧ (x3 = x3) ∧ (x3 = x3) ∧ (x3 = x3) ∧ (x3 = x3) ∧ (inI64 (900000 : Int)) ∧ 
  (x3 = x3) ∧ (inI64 (900000 : Int)) ∧ 
  ((0 : Int) ≤ (900000 : Int) ∧ (900000 : Int) ≤ (900000 : Int) ∧ room (900000 : Nat) (1 : Nat)) ∧ 
  ∀ x4 : (Value), (x3 = x3) ∧ (x3 = x3) ∧ (x3 = x3) ∧ ∀ x5 : (Nat), ∀ x6 : (Nat), (x6 = x6) ∧ Br (n == (0 : Int))
    (∀ x7 : (Nat), (x7 = x7) ∧ (x7 = x7) ∧ (x7 = x7) ∧ (x7 = x7) ∧ (x7 = x7) ∧ (x7 = x7) ∧ (x7 = x7) ∧ (x7 = x7) ∧ (x7 = x7) ∧ (x7 = x7) ∧ (x7 = x7) ∧ (x7 = x7) ∧ (x7 = x7) ∧ (x7 = x7) ∧ (inI64 (600000 : Int)) ∧ 
    (x7 = x7) ∧ (inI64 (600000 : Int)) ∧ 
    ((0 : Int) ≤ (600000 : Int) ∧ (600000 : Int) ≤ (600000 : Int) ∧ room (600000 : Nat) (1 : Nat)) ∧ 
    ∀ x8 : (Value), (x7 = x7) ∧ (x7 = x7) ∧ (x7 = x7) ∧ Br (decide (n ≥ (0 : Int)))
      ((Value.bool (true == decide (n ≤ (9 : Int))) = Value.bool true))
      ((Value.bool (true == false) = Value.bool true)))
    (Br (decide (n < (1 : Int)))
      (∀ x7 : (Nat), Br (decide (n ≥ (0 : Int)))
        ((Value.bool (false == decide (n ≤ (9 : Int))) = Value.bool true))
        ((Value.bool (false == false) = Value.bool true)))
      (Br (decide (n > (9 : Int)))
        (∀ x7 : (Nat), Br (decide (n ≥ (0 : Int)))
          ((Value.bool (false == decide (n ≤ (9 : Int))) = Value.bool true))
          ((Value.bool (false == false) = Value.bool true)))
        (∀ x7 : (Nat), (x7 = x7) ∧ (x7 = x7) ∧ (x7 = x7) ∧ (x7 = x7) ∧ (x7 = x7) ∧ (x7 = x7) ∧ (x7 = x7) ∧ (x7 = x7) ∧ (x7 = x7) ∧ (x7 = x7) ∧ (x7 = x7) ∧ (x7 = x7) ∧ (x7 = x7) ∧ (x7 = x7) ∧ (inI64 (n * (100000 : Int))) ∧ 
        Br ((0 : Int) != n * (100000 : Int))
          ((x7 = x7) ∧ (inI64 (n * (100000 : Int))) ∧ 
          ((0 : Int) ≤ n * (100000 : Int) ∧ n * (100000 : Int) ≤ n * (100000 : Int) ∧ room (Int.toNat (n * (100000 : Int))) (1 : Nat)) ∧ 
          ∀ x8 : (Value), (x7 = x7) ∧ (x7 = x7) ∧ (x7 = x7) ∧ Br (decide (n ≥ (0 : Int)))
            ((Value.bool (true == decide (n ≤ (9 : Int))) = Value.bool true))
            ((Value.bool (true == false) = Value.bool true)))
          ((x7 = x7) ∧ (x7 = x7) ∧ Br (decide (n ≥ (0 : Int)))
            ((Value.bool (true == decide (n ≤ (9 : Int))) = Value.bool true))
            ((Value.bool (true == false) = Value.bool true))))))
theorem cond3_ok (n : Int) : cond3 n := by
  unfold cond3
  repeat' with_reducible first
    | (intro x; skip)
    | (refine And.intro rfl ?_)
    | (refine br_mk (fun h => ?_) (fun h => ?_))
    | (refine And.intro ?_ ?_)
  all_goals try simp only [inI64, room, beq_iff_eq, bne_iff_ne, ne_eq, decide_eq_true_eq, decide_eq_false_iff_not, beq_eq_false_iff_ne, bne_eq_false_iff_eq, Value.bool.injEq] at *
  all_goals first
    | rfl
    | omega
    | (exfalso; omega)
    | (simp; done)
    | (simp; omega)
noncomputable def law3 (n : Int) : VCT := fnx CC (inlD CC (fun _ => none) body 5) noAnn Try.f3 [.v (.int .i64 n)] [] (fun r _ => .leaf (r.toV = .bool true)) (fun _ _ => .ff "it panics")
theorem vc3_eq (n : Int) : cond3 n = (law3 n).den := by kernel_rfl
theorem vc3 (n : Int) : Met (law3 n) := Met.of (vc3_eq n) (cond3_ok n)
end Bz
