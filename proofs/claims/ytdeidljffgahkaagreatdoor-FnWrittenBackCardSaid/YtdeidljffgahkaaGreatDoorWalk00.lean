/-
 A verification-condition generator over the model's code: symbolic values, symbolic memory, and the conditions under which a function's text does what is claimed (the definitions; the soundness stands in the next texts).
-/
import Derived.StillTail
import Derived.Calls
import Derived.Laws.AppendOwn
import Derived.Laws.Cells
import Derived.Laws.OwnMore
import Derived.Laws.Entries
import Derived.OrdersHeld
import Derived.Laws.Tables
import Derived.Laws.BytesString
import Derived.Laws.BytesArg
set_option linter.unusedVariables false
namespace Go.Vg

structure Enc (α : Type) where
 enc : α -> List Value
 dec : List Value -> Option α
 sz : Nat
 len : ∀ x, (enc x).length = sz
 one : ∀ x, ∀ v ∈ enc x, v.oneCell' = true
 dec_ok : ∀ l x, dec l = some x -> enc x = l
structure Tys where
 El : TypeId -> Type
 enc : (e : TypeId) -> Enc (El e)

inductive Off where
 | lit (n : Nat)
 | el (base i sz fld : Nat)
def Off.val : Off -> Nat
 | .lit n => n
 | .el b i s f => b + i * s + f
def Off.add : Off -> Nat -> Off
 | .lit n, k => .lit (n + k)
 | .el b i s f, k => .el b i s (f + k)

mutual
/-- A symbolic value: a plain value, or one that bears memory of the symbolic heap (h: the entry's place in it). -/
inductive SV (T : Tys) : Type where
 | un
 | v (x : Value)
 | p (h b : Nat) (o : Off)
 | s (h b : Nat) (e : TypeId) (base lo len cap : Nat)
 | o (h : Nat) (e : TypeId) (x : Value) (n : Nat)
 | ov (h : Nat) (e : TypeId) (x : Value) (lo hi : Nat) (v : Value)
 | w (x : Value) (n : Nat)
 | q (h : Nat) (e : TypeId) (x : Value) (i fld : Nat)
 | ro (e : TypeId) (x : Value) (l : List (T.El e))
 | rq (e : TypeId) (x : Value) (l : List (T.El e)) (i fld : Nat)
 | i (t : TypeId) (x : SV T)
 | a (xs : List (Seg T))
 | t (xs : List (SV T))
 | f (fn : Fn) (first captured : List (SV T))
/-- A piece of a block: one cell, or a row of n elements. -/
inductive Seg (T : Tys) : Type where
 | c (x : SV T)
 | r (e : TypeId) (n : Nat) (l : List (T.El e))
end

def addrOf : Value -> Nat -> Option Addr
 | .slice (some a) _ _, k => some (a.add k)
 | _, _ => none
def sliceVal (x : Value) (lo hi sz : Nat) : Value := match x with
 | .slice A _ cap => .slice (if cap = lo then A else A.map (·.add (lo * sz))) (hi - lo) (cap - lo)
 | y => y
def capVal : Value -> Nat
 | .slice _ _ c => c
 | _ => 0

variable {T : Tys}
mutual
def SV.toV : SV T -> Value
 | .un => undef
 | .v x => x
 | .p _ b o => .pointer (some ⟨b, o.val, none⟩)
 | .s _ b e base lo len cap => .slice (some ⟨b, base + lo * (T.enc e).sz, none⟩) len cap
 | .o _ _ x _ => x
 | .ov _ _ _ _ _ v => v
 | .w x _ => x
 | .q _ e x i fld => .pointer (addrOf x (i * (T.enc e).sz + fld))
 | .ro _ x _ => x
 | .rq e x _ i fld => .pointer (addrOf x (i * (T.enc e).sz + fld))
 | .i t x => .iface t x.toV
 | .a xs => .agg (Seg.cellsL xs).toArray
 | .t xs => .tuple (SV.toVL xs).toArray
 | .f fn fi ca => .func fn (SV.toVL fi).toArray (SV.toVL ca).toArray
def SV.toVL : List (SV T) -> List Value
 | [] => []
 | x :: r => x.toV :: SV.toVL r
def Seg.cells : Seg T -> List Value
 | .c x => [x.toV]
 | .r e _ l => l.flatMap (T.enc e).enc
def Seg.cellsL : List (Seg T) -> List Value
 | [] => []
 | x :: r => x.cells ++ Seg.cellsL r
end

inductive Ent (T : Tys) : Type where
 | B (b : Nat) (ty : TypeId) (segs : List (Seg T))
 | O (x : Value) (e : TypeId) (l : List (T.El e))
 | F (m : Nat -> Option Obj)
 | R (rel : (e : TypeId) -> Value -> List (T.El e) -> Prop)
 | X

inductive VCT : Type 1 where
 | leaf (p : Prop)
 | fact (p : Prop) (k : VCT)
 | asm (p : Prop) (k : VCT)
 | all (α : Type) (k : α -> VCT)
 | ex (α : Type) (k : α -> VCT)
 | br (t : Bool) (a b : VCT)
 | and (a b : VCT)
 | or (a b : VCT)
 | ff (why : String)
def Br (t : Bool) (a b : Prop) : Prop := match t with | true => a | false => b
def VCT.den : VCT -> Prop
 | .leaf p => p
 | .fact p k => p /\ k.den
 | .asm p k => p -> k.den
 | .all _ k => ∀ x, (k x).den
 | .ex _ k => ∃ x, (k x).den
 | .br t a b => Br t a.den b.den
 | .and a b => a.den /\ b.den
 | .or a b => a.den \/ b.den
 | .ff _ => False

inductive Fm (T : Tys) : Type where
 | l (x : Option (SV T))
 | n (a b : Fm T)
def Fm.get : Fm T -> Nat -> Option (SV T)
 | .l x, i => cond (Nat.beq i 0) x none
 | .n a b, i => cond (Nat.beq (Nat.mod i 2) 0) (a.get (Nat.div i 2)) (b.get (Nat.div i 2))
def Fm.set : Fm T -> Nat -> Option (SV T) -> Fm T
 | .l y, i, x => cond (Nat.beq i 0) (.l x) (.l y)
 | .n a b, i, x => cond (Nat.beq (Nat.mod i 2) 0) (.n (a.set (Nat.div i 2) x) b) (.n a (b.set (Nat.div i 2) x))
def Fm.mk (T : Tys) : Nat -> Fm T
 | 0 => .l none
 | d + 1 => .n (Fm.mk T d) (Fm.mk T d)
theorem Fm.get_set : ∀ (f : Fm T) (i j : Nat) (x : Option (SV T)) (y : SV T), (f.set i x).get j = some y -> (i = j /\ x = some y) \/ (i ≠ j /\ f.get j = some y)
 | .l z, i, j, x, y, h => by
   by_cases hi : i = 0
   . subst hi
     by_cases hj : j = 0
     . subst hj; exact .inl ⟨rfl, h⟩
     . have : Nat.beq j 0 = false := by cases j with | zero => exact absurd rfl hj | succ j => rfl
       simp only [Fm.set, cond, Fm.get, this] at h
       simp at h
   . have hb : Nat.beq i 0 = false := by cases i with | zero => exact absurd rfl hi | succ j => rfl
     simp only [Fm.set, hb, cond] at h
     by_cases hj : j = 0
     . subst hj; exact .inr ⟨hi, h⟩
     . have : Nat.beq j 0 = false := by cases j with | zero => exact absurd rfl hj | succ j => rfl
       simp only [Fm.get, this] at h
       simp at h
 | .n a b, i, j, x, y, h => by
   have hd : ∀ k : Nat, k = 2 * (Nat.div k 2) + Nat.mod k 2 := fun k => (Nat.div_add_mod k 2).symm
   have hm : ∀ k : Nat, Nat.mod k 2 = 0 \/ Nat.mod k 2 = 1 := fun k => Nat.mod_two_eq_zero_or_one k
   have hi := hd i
   have hj := hd j
   rcases hm i with h1 | h1 <;> rcases hm j with h2 | h2 <;> simp only [Fm.set, Fm.get, h1, h2, cond, Nat.beq] at h ⊢
   . rcases Fm.get_set a _ _ x y h with ⟨e, h⟩ | ⟨e, h⟩
     . exact .inl ⟨by rw [hi, hj, h1, h2, e], h⟩
     . exact .inr ⟨fun e' => e (by rw [e']), h⟩
   . exact .inr ⟨fun e' => by rw [e'] at h1; omega, h⟩
   . exact .inr ⟨fun e' => by rw [e'] at h1; omega, h⟩
   . rcases Fm.get_set b _ _ x y h with ⟨e, h⟩ | ⟨e, h⟩
     . exact .inl ⟨by rw [hi, hj, h1, h2, e], h⟩
     . exact .inr ⟨fun e' => e (by rw [e']), h⟩
theorem Fm.get_mk : ∀ (d i : Nat), (Fm.mk T d).get i = none
 | 0, i => by simp only [Fm.mk, Fm.get]; cases Nat.beq i 0 <;> rfl
 | d + 1, i => by simp only [Fm.mk, Fm.get, Fm.get_mk d]; cases Nat.beq (Nat.mod i 2) 0 <;> rfl
structure Met (v : VCT) : Prop where
 den : v.den
theorem Met.of {p : Prop} {v : VCT} (h : p = v.den) (hp : p) : Met v := ⟨h ▸ hp⟩
theorem br_mk {t : Bool} {a b : Prop} (h1 : t = true -> a) (h2 : t = false -> b) : Br t a b := by
 cases t
 . exact h2 rfl
 . exact h1 rfl
structure Fr (T : Tys) where
 length : Nat
 t : Fm T
def Fr.get (f : Fr T) (i : Nat) : Option (SV T) := cond (Nat.ble (i + 1) f.length) (f.t.get i) none
def Fr.set (f : Fr T) (i : Nat) (x : Option (SV T)) : Fr T := { length := f.length, t := f.t.set i x }
def Fr.nil : Fr T := { length := 0, t := .l none }
theorem Fr.get_some {f : Fr T} {i : Nat} {x : SV T} (h : f.get i = some x) : i < f.length /\ f.t.get i = some x := by
 unfold Fr.get at h
 cases hb : Nat.ble (i + 1) f.length with
 | true => rw [hb] at h; exact ⟨Nat.le_of_ble_eq_true hb, h⟩
 | false => rw [hb] at h; cases h
theorem Fr.get_set {f : Fr T} {i j : Nat} {x : Option (SV T)} {y : SV T} (h : (f.set i x).get j = some y) : (i = j /\ x = some y /\ i < f.length) \/ (i ≠ j /\ f.get j = some y) := by
 obtain ⟨h1, h2⟩ := Fr.get_some h
 rcases Fm.get_set _ _ _ _ _ h2 with ⟨e, h3⟩ | ⟨e, h3⟩
 . exact .inl ⟨e, h3, by rw [e]; exact h1⟩
 . refine .inr ⟨e, ?_⟩
   unfold Fr.get
   rw [Nat.ble_eq_true_of_le (show j + 1 <= f.length from h1)]
   exact h3
structure St (T : Tys) where
 fr : Fr T
 H : List (Ent T)

inductive Ex (T : Tys) : Type where
 | normal
 | exit (id : Nat)
 | goto (l : Nat)
 | ret
 | panic (x : SV T)

def prun {α : Type} (P : Program) : Sem α -> Option α
 | .pure a => some a
 | .program k => prun P (k P)
 | .mark _ k => prun P k
 | _ => none

structure Ctx (T : Tys) where
 P : Program
 zt : TypeId -> Option (List (Seg T))
 glob : List (Nat × Value)
 /-- of a slice's type: the row of one's own that a value read out of a row of slices is a part of -/
 hint : TypeId -> Option Nat := fun _ => none
 /-- of a slice's type: the block (its entry, and where its row begins) that a raw value is a part of -/
 hintP : TypeId -> Option (Nat × Nat) := fun _ => none
 /-- of rows that are made with more room than length, the length alone is told -/
 tight : Bool := false
 /-- rounds that a loop without a claim may have -/
 fuel : Nat := 100
 /-- a run whose numbers are all known: what is decided is decided at once -/
 conc : Bool := false

def St.get (S : St T) (i : Nat) : Option (SV T) := S.fr.get i
def St.set (S : St T) (d : Option Tmp) (x : SV T) : St T :=
 match d with
 | some d => { fr := S.fr.set d (some x), H := S.H }
 | none => S
def St.ev (S : St T) : Operand -> Option (SV T)
 | .tmp t => S.get t
 | .const x => if x.oneCell' then some (.v x) else none
 | .global g => some (.v (.pointer (some ⟨g, 0, none⟩)))
 | .func f => some (.v (.func (.func f) #[] #[]))
def St.evV (S : St T) (x : Operand) : Value :=
 match S.ev x with
 | some (.v y) => y
 | _ => undef
def isV (x : Option (SV T)) : Bool := match x with | some (.v _) => true | _ => false
def St.plain (S : St T) (xs : List Operand) : Bool := xs.all fun x => isV (S.ev x)
def St.ent (S : St T) (h : Nat) : Ent T := S.H.getD h .X
def St.setEnt (S : St T) (h : Nat) (e : Ent T) : St T := { S with H := S.H.set h e }
def St.push (S : St T) (e : Ent T) : St T := { S with H := S.H ++ [e] }

abbrev Rel (T : Tys) := (e : TypeId) -> Value -> List (T.El e) -> Prop
def relOf : List (Ent T) -> Option (Rel T)
 | [] => none
 | .R rel :: _ => some rel
 | _ :: r => relOf r
def isRo (rel : Rel T) (e : TypeId) (x : Value) (l : List (T.El e)) : Prop := rel e x l \/ (x = .slice none 0 0 /\ l = [])
def relAdd1 (rel : Rel T) (e0 : TypeId) (x0 : Value) (l0 : List (T.El e0)) : Rel T := fun e x l => rel e x l \/ (x = x0 /\ ∃ h : e0 = e, l = h ▸ l0)
def relAdd (rel : Rel T) (e0 : TypeId) (x0 : Value) (l0 : List (T.El e0)) : Rel T := fun e x l =>
 rel e x l \/ ∃ (h : e0 = e) (lo hi : Nat), lo <= hi /\ hi <= l0.length /\ x = sliceVal x0 lo hi (T.enc e0).sz /\ l = h ▸ ((l0.take hi).drop lo)
def szE (T : Tys) (e : TypeId) : Nat := (T.enc e).sz
def findC : List (Seg T) -> Nat -> Option (SV T)
 | .c x :: _, 0 => some x
 | .c _ :: r, n + 1 => findC r n
 | .r e k _ :: r, n => if n < k * szE T e then none else findC r (n - k * szE T e)
 | [], _ => none
def setC : List (Seg T) -> Nat -> SV T -> Option (List (Seg T))
 | .c _ :: r, 0, y => some (.c y :: r)
 | .c x :: r, n + 1, y => (setC r n y).map (.c x :: ·)
 | .r e k l :: r, n, y => if n < k * szE T e then none else (setC r (n - k * szE T e) y).map (.r e k l :: ·)
 | [], _, _ => none
inductive Row (T : Tys) : Type where
 | mk (e : TypeId) (n : Nat) (l : List (T.El e))
def findR : List (Seg T) -> Nat -> Option (Row T)
 | .r e k l :: r, n => if n = 0 then some (.mk e k l) else if n < k * szE T e then none else findR r (n - k * szE T e)
 | .c _ :: r, n + 1 => findR r n
 | _, _ => none
def setR (e' : TypeId) (n' : Nat) (l' : List (T.El e')) : List (Seg T) -> Nat -> Option (List (Seg T))
 | .r e k l :: r, n => if n = 0 then (if e = e' then some (.r e' n' l' :: r) else none) else if n < k * szE T e then none else (setR e' n' l' r (n - k * szE T e)).map (.r e k l :: ·)
 | .c x :: r, n + 1 => (setR e' n' l' r n).map (.c x :: ·)
 | _, _ => none
def splitS : List (Seg T) -> Nat -> Option (List (Seg T) × List (Seg T))
 | l, 0 => some ([], l)
 | .c x :: r, n + 1 => (splitS r n).map fun (a, b) => (.c x :: a, b)
 | .r e k l :: r, n + 1 => if n + 1 < k * szE T e then none else (splitS r (n + 1 - k * szE T e)).map fun (a, b) => (.r e k l :: a, b)
 | [], _ + 1 => none
def segsLen : List (Seg T) -> Nat
 | [] => 0
 | .c _ :: r => 1 + segsLen r
 | .r e k _ :: r => k * szE T e + segsLen r
def subS (xs : List (Seg T)) (off n : Nat) : Option (List (Seg T)) :=
 match splitS xs off with
 | some (_, r) => match splitS r n with
   | some (m, _) => some m
   | none => none
 | none => none
def putS (xs : List (Seg T)) (off n : Nat) (ys : List (Seg T)) : Option (List (Seg T)) :=
 match splitS xs off with
 | some (a, r) => match splitS r n with
   | some (_, z) => some (a ++ ys ++ z)
   | none => none
 | none => none

def isAggT (P : Program) (t : TypeId) : Option Bool := match P.underlying t with
 | some (.struct _) => some true
 | some (.array _ _) => some true
 | some _ => some false
 | none => none
def sizeT (P : Program) (t : TypeId) : Option Nat := (P.info? t).map (·.size)
def fieldT (P : Program) (t : TypeId) (i : Nat) : Option Field := match P.underlying t with
 | some (.struct fs) => fs[i]?
 | _ => none

def append? {α : Type} (a b : Option (List α)) : Option (List α) := match a, b with
 | some x, some y => some (x ++ y)
 | _, _ => none
def zsegs (P : Program) (zero : (e : TypeId) -> Option (T.El e)) : Nat -> TypeId -> Option (List (Seg T))
 | 0, _ => none
 | d + 1, t => match P.underlying t with
   | some (.struct fs) => fs.toList.foldr (fun f acc => append? (zsegs P zero d f.type) acc) (some [])
   | some (.array n e) => match zero e with
     | some z => some [.r e n (List.replicate n z)]
     | none => (List.replicate n ()).foldr (fun _ acc => append? (zsegs P zero d e) acc) (some [])
   | some _ => match (P.info? t).bind (·.zero) with
     | some (.agg _) => none
     | some z => some [.c (.v z)]
     | none => none
   | none => none
def SV.segs : SV T -> List (Seg T)
 | .a xs => xs
 | x => [.c x]

def readS (P : Program) (t : TypeId) (xs : List (Seg T)) (off : Nat) : Option (SV T) :=
 match isAggT P t, sizeT P t with
 | some true, some n => (subS xs off n).map .a
 | some false, _ => findC xs off
 | _, _ => none
def cellS : Value -> SV T
 | .slice A n c => .w (.slice A n c) n
 | v => .v v
def readE (P : Program) (t : TypeId) (cells : List Value) (fld : Nat) : Option (SV T) :=
 match isAggT P t, sizeT P t with
 | some true, some n => if fld + n <= cells.length then some (.a (((cells.drop fld).take n).map fun y => .c (cellS y))) else none
 | some false, _ => (cells[fld]?).map cellS
 | _, _ => none
def inRange (n : Int) (len : Nat) : Prop := 0 <= n /\ n < len
instance (n : Int) (len : Nat) : Decidable (inRange n len) := inferInstanceAs (Decidable (_ /\ _))
def room (n bytes : Nat) : Prop := n <= 9223372036854775807 /\ n * bytes <= 140737488355328
instance (n bytes : Nat) : Decidable (room n bytes) := inferInstanceAs (Decidable (_ /\ _))
def inI64 (n : Int) : Prop := -9223372036854775808 <= n /\ n < 9223372036854775808
instance (n : Int) : Decidable (inI64 n) := inferInstanceAs (Decidable (_ /\ _))
def factB (cc : Bool) (p : Prop) [Decidable p] (k : VCT) : VCT := cond cc (cond (decide p) k (.ff "it does not hold")) (.fact p k)
theorem factB_den {cc : Bool} {p : Prop} [Decidable p] {k : VCT} (h : (factB cc p k).den) : p /\ k.den := by
 cases cc with
 | false => exact h
 | true =>
   simp only [factB, cond] at h
   by_cases hp : p
   . rw [decide_eq_true hp] at h; exact ⟨hp, h⟩
   . rw [decide_eq_false hp] at h; exact h.elim
def elemK (cc : Bool) (P : Program) (t e : TypeId) (l : List (T.El e)) (i fld : Nat) (k : SV T -> VCT) : VCT :=
 cond cc (match l[i]? with
   | some y => match readE P t ((T.enc e).enc y) fld with
     | some z => k z
     | none => .ff "no such part of an element"
   | none => .ff "no such element") <| .fact (i < l.length) (.all (T.El e) fun y => .asm (l[i]? = some y) (match readE P t ((T.enc e).enc y) fld with
   | some z => k z
   | none => .ff "no such part of an element"))

def ptrLoad (C : Ctx T) (t : TypeId) (S : St T) (x : SV T) (k : SV T -> VCT) : VCT :=
 match x with
 | .p h b (.lit o) => match S.ent h with
   | .B b' _ segs => match readS C.P t segs o with
     | some y => .fact (b = b') (k y)
     | none => .ff "load: no such cell"
   | _ => .ff "load: no block"
 | .p h b (.el base i sz fld) => match S.ent h with
   | .B b' _ segs => match findR segs base with
     | some (.mk e n l) => if sz = szE T e then .fact (b = b') (elemK C.conc C.P t e l i fld k) else .ff "load: another size"
     | none => .ff "load: no row"
   | _ => .ff "load: no block"
 | .q h e x i fld => match S.ent h with
   | .O x' e' l => if e = e' then .fact (x = x') (elemK C.conc C.P t e' l i fld k) else .ff "load: another type"
   | _ => .ff "load: no row of its own"
 | .rq e x l i fld => elemK C.conc C.P t e l i fld k
 | .v (.pointer (some ⟨g, 0, none⟩)) => match isAggT C.P t, sizeT C.P t with
   | some true, some 0 => k (.a [])
   | some false, _ => match C.glob.lookup g with
     | some y => k (.v y)
     | none => .ff "load: an unknown variable"
   | _, _ => .ff "load: a global aggregate"
 | _ => .ff "load: no pointer"

end Go.Vg
/-
 The generator, part 2: the operations that leave memory alone.
-/
set_option linter.unusedVariables false
namespace Go.Vg
variable {T : Tys}

def bitI (op : BinOp) (k : IntKind) (x y : Int) : Int :=
 let a := BitVec.ofInt k.bits x
 let b := BitVec.ofInt k.bits y
 k.wrap (match op with
   | .and => ((a &&& b).toNat : Int)
   | .or => (a ||| b).toNat
   | .xor => (a ^^^ b).toNat
   | .andNot => (a &&& ~~~b).toNat
   | _ => 0)
def mxI (a b : Int) : Int := if b > a then b else a
def mnI (a b : Int) : Int := if b < a then b else a
def shlI (k : IntKind) (x y : Int) : Int := k.wrap (x * 2 ^ (min y.toNat k.bits))
def shrI (k : IntKind) (x y : Int) : Int := x.fdiv (2 ^ (min y.toNat k.bits))

def arith (cc : Bool) (k : IntKind) (n : Int) (c : SV T -> VCT) : VCT := match k with
 | .i64 => factB cc (inI64 n) (c (.v (.int .i64 n)))
 | k => c (.v (.int k (k.wrap n)))

def binInt (cc : Bool) (op : BinOp) (k : IntKind) (a b : Int) (c : SV T -> VCT) : VCT := match op with
 | .add => arith cc k (a + b) c
 | .sub => arith cc k (a - b) c
 | .mul => arith cc k (a * b) c
 | .quo => .fact (b ≠ 0) (c (.v (.int k (k.wrap (a.tdiv b)))))
 | .rem => .fact (b ≠ 0) (c (.v (.int k (a.tmod b))))
 | .and => c (.v (.int k (bitI .and k a b)))
 | .or => c (.v (.int k (bitI .or k a b)))
 | .xor => c (.v (.int k (bitI .xor k a b)))
 | .andNot => c (.v (.int k (bitI .andNot k a b)))
 | .eql => c (.v (.bool (a == b)))
 | .neq => c (.v (.bool (a != b)))
 | .lss => c (.v (.bool (decide (a < b))))
 | .leq => c (.v (.bool (decide (a <= b))))
 | .gtr => c (.v (.bool (decide (a > b))))
 | .geq => c (.v (.bool (decide (a >= b))))
 | _ => .ff "an operation on numbers"

def SV.notNil : SV T -> Bool
 | .p _ _ _ => true
 | .s _ _ _ _ _ _ _ => true
 | .i _ _ => true
 | .v (.iface _ _) => true
 | .v (.pointer (some _)) => true
 | .f _ _ _ => true
 | _ => false
def SV.isNil : SV T -> Bool
 | .v (.pointer none) => true
 | .v .nilIface => true
 | .v (.slice none _ _) => true
 | .v .nilFunc => true
 | _ => false
def nilFits (P : Program) (t : TypeId) : SV T -> SV T -> Bool
 | .p _ _ _, .v (.pointer none) => match P.underlying t with | some (.pointer _) => true | _ => false
 | .v (.pointer none), .p _ _ _ => match P.underlying t with | some (.pointer _) => true | _ => false
 | .i _ _, .v .nilIface => match P.underlying t with | some (.interface _) => true | _ => false
 | .v .nilIface, .i _ _ => match P.underlying t with | some (.interface _) => true | _ => false
 | .s _ _ _ _ _ _ _, .v (.slice none _ _) => match P.underlying t with | some (.slice _) => true | _ => false
 | _, _ => false

def isSl : SV T -> Bool
 | .o _ _ _ _ => true
 | .ov _ _ _ _ _ _ => true
 | .w _ _ => true
 | .ro _ _ _ => true
 | _ => false
def nilB : Value -> Bool
 | .slice none _ _ => true
 | _ => false
def isNilSl : SV T -> Bool
 | .v (.slice none 0 0) => true
 | _ => false
def nilK (S : St T) (u : SV T) (k : VCT) : VCT := match u with
 | .ov h _ x lo _ v => match S.ent h with
   | .O x' _ l => .asm (x = x' -> lo = 0 -> 0 < l.length -> nilB v = false) k
   | _ => k
 | _ => k
def isSliceT (P : Program) (t : TypeId) : Bool := match P.underlying t with | some (.slice _) => true | _ => false
def generic (C : Ctx T) (o : Oper) (S : St T) (c : SV T -> VCT) : VCT :=
 if S.plain o.op.operands.toList then match prun C.P (execOp S.evV o) with
   | some (.value y) => if y.oneCell' then c (.v y) else .ff "a value of many cells"
   | _ => .ff "an operation that is not pure"
 else .ff "an operation on memory"

def assertsB (P : Program) (t asserted : TypeId) : Option Bool := match prun P (Instr.typeAssert (.iface t undef) 0 asserted true) with
 | some (.tuple vs) => match (vs[1]? : Option Value) with
   | some (.bool b) => some b
   | _ => none
 | _ => none
def isIfaceT (P : Program) (t : TypeId) : Bool := match P.underlying t with | some (.interface _) => true | _ => false
def assertV (C : Ctx T) (t : TypeId) (x inner : SV T) (asserted : TypeId) (ok : Bool) (c : SV T -> VCT) : VCT :=
 match assertsB C.P t asserted with
 | some true => let y := if isIfaceT C.P asserted then x else inner
   c (if ok then .t [y, .v (.bool true)] else y)
 | some false => if ok then match (C.P.info? asserted).bind (·.zero) with
     | some z => if z.oneCell' then c (.t [.v z, .v (.bool false)]) else .ff "a zero value of many cells"
     | none => .ff "no zero value" else .ff "a type assertion that fails"
 | none => .ff "a type assertion"

def SV.isPart : SV T -> Bool
 | .t _ => false
 | .un => false
 | _ => true
def buildS (places : List (Nat × Nat)) : List (Nat × SV T) -> List (Seg T) -> Option (List (Seg T))
 | [], segs => some segs
 | (i, x) :: r, segs => match places[i]? with
   | some (off, n) => if segsLen x.segs = n /\ x.isPart = true then match putS segs off n x.segs with
       | some segs' => buildS places r segs'
       | none => none
     else none
   | none => none
def buildA (n : Nat) : List (Nat × SV T) -> List (Seg T) -> Option (List (Seg T))
 | [], segs => some segs
 | (i, x) :: r, segs => if segsLen x.segs = n /\ x.isPart = true then match putS segs (i * n) n x.segs with
     | some segs' => buildA n r segs'
     | none => none
   else none
def evL (S : St T) : List Operand -> Option (List (SV T))
 | [] => some []
 | x :: r => match S.ev x, evL S r with
   | some y, some l => some (y :: l)
   | _, _ => none
def evP (S : St T) : List (Nat × Operand) -> Option (List (Nat × SV T))
 | [] => some []
 | (i, x) :: r => match S.ev x, evP S r with
   | some y, some l => some ((i, y) :: l)
   | _, _ => none

def idxInt (S : St T) (x : Operand) : Option Int := match S.ev x with
 | some (.v (.int _ n)) => some n
 | _ => none

def viewK (C : Ctx T) (t : TypeId) (S : St T) (x : SV T) (k : SV T -> VCT) : VCT := match x with
 | .w v m => match C.hintP t with
   | some (h, base) => match S.ent h, C.P.underlying t with
     | .B b _ _, some (.slice e) => .ex (Nat × Nat) fun p => .fact (v = .slice (some ⟨b, base + p.1 * szE T e, none⟩) m p.2) (k (.s h b e base p.1 m p.2))
     | _, _ => .ff "view: no block"
   | none => k (.w v m)
 | x => k x
theorem viewK_den {C : Ctx T} {t : TypeId} {S : St T} {x : SV T} {k : SV T -> VCT} (h : (viewK C t S x k).den) : ∃ y, (k y).den /\ (y = x \/ (y.toV = x.toV /\ ∃ h b e base lo m c, y = .s h b e base lo m c)) := by
 unfold viewK at h
 split at h
 . split at h
   . split at h
     . obtain ⟨p, h1, h2⟩ := h
       exact ⟨_, h2, .inr ⟨by simp only [SV.toV]; exact h1.symm, _, _, _, _, _, _, _, rfl⟩⟩
     . exact h.elim
   . exact ⟨_, h, .inl rfl⟩
 . exact ⟨_, h, .inl rfl⟩
def idxAddr (C : Ctx T) (t : TypeId) (S : St T) (x : SV T) (n : Int) (c : SV T -> VCT) : VCT :=
 match x with
 | .p h b (.lit o) => match C.P.underlying t with
   | some (.array len e) => match sizeT C.P e with
     | some sz => match S.ent h with
       | .B b' _ segs => match findR segs o with
         | some (.mk e' k l) => if sz = szE T e' /\ sz ≠ 0 then factB C.conc (inRange n len) (c (.p h b (.el o n.toNat sz 0))) else .ff "index: another size"
         | none => if sz = 0 then .ff "index: no cells" else factB C.conc (inRange n len) (c (.p h b (.lit (o + n.toNat * sz))))
       | _ => .ff "index: no block"
     | none => .ff "index: no size"
   | _ => .ff "index: no array"
 | .s h b e base lo len cap => match C.P.underlying t with
   | some (.slice e') => if sizeT C.P e' = some (szE T e) /\ szE T e ≠ 0 then factB C.conc (inRange n len) (c (.p h b (.el base (lo + n.toNat) (szE T e) 0))) else .ff "index: another size"
   | _ => .ff "index: no slice"
 | .o h e x k => match C.P.underlying t with
   | some (.slice e') => if sizeT C.P e' = some (szE T e) /\ szE T e ≠ 0 then match S.ent h with
       | .O x' e2 l => if e = e2 then .fact (x = x') (factB C.conc (inRange n l.length) (c (.q h e x n.toNat 0))) else .ff "index: another type"
       | _ => .ff "index: no row of its own"
     else .ff "index: another size"
   | _ => .ff "index: no slice"
 | .w x m => match C.P.underlying t with
   | some (.slice e') => if sizeT C.P e' = some (szE T e') /\ szE T e' ≠ 0 then match C.hint t with
       | some h => match S.ent h with
         | .O x' e2 l => if e' = e2 then .ex (Nat × Nat) fun p => .fact (x = sliceVal x' p.1 p.2 (szE T e2) /\ p.1 <= p.2 /\ p.2 <= l.length) (.fact (inRange n (p.2 - p.1)) (c (.q h e2 x' (p.1 + n.toNat) 0))) else .ff "index: another type"
         | _ => .ff "index: no row of its own"
       | none => match relOf S.H with
         | some rel => .ex (List (T.El e')) fun l => .fact (isRo rel e' x l) (.asm (m = l.length) (factB C.conc (inRange n l.length) (c (.rq e' x l n.toNat 0))))
         | none => .ff "index: nothing is known"
     else .ff "index: another size"
   | _ => .ff "index: no slice"
 | .ov h e x lo hi _ => match C.P.underlying t with
   | some (.slice e') => if sizeT C.P e' = some (szE T e) /\ szE T e ≠ 0 then match S.ent h with
       | .O x' e2 l => if e = e2 then .fact (x = x') (factB C.conc (inRange n (hi - lo) /\ hi <= l.length) (c (.q h e x (lo + n.toNat) 0))) else .ff "index: another type"
       | _ => .ff "index: no row of its own"
     else .ff "index: another size"
   | _ => .ff "index: no slice"
 | .ro e x l => match C.P.underlying t with
   | some (.slice e') => if sizeT C.P e' = some (szE T e) /\ szE T e ≠ 0 then factB C.conc (inRange n l.length) (c (.rq e x l n.toNat 0)) else .ff "index: another size"
   | _ => .ff "index: no slice"
 | _ => .ff "index: of what?"

def bound (S : St T) (x : Option Operand) (d : Int) : Option Int := match x with
 | none => some d
 | some x => idxInt S x
def slicing (C : Ctx T) (t : TypeId) (S : St T) (x : SV T) (lo hi mx : Option Operand) (c : SV T -> VCT) : VCT :=
 if mx.isSome then .ff "slice: three indexes" else
 match x with
 | .p h b (.lit o) => match C.P.underlying t with
   | some (.array n e) => match S.ent h with
     | .B b' _ segs => match findR segs o with
       | some (.mk e' k l) => if sizeT C.P e = some (szE T e') then match bound S lo 0, bound S hi n with
           | some l, some u => factB C.conc (0 <= l /\ l <= u /\ u <= n /\ (l < n \/ l = 0)) (c (.s h b e' o l.toNat (u.toNat - l.toNat) (n - l.toNat)))
           | _, _ => .ff "slice: bounds"
         else .ff "slice: another size"
       | none => .ff "slice: no row"
     | _ => .ff "slice: no block"
   | _ => .ff "slice: no array"
 | .s h b e base k len cap => match C.P.underlying t with
   | some (.slice e') => if sizeT C.P e' = some (szE T e) then match bound S lo 0, bound S hi len with
       | some l, some u => factB C.conc (0 <= l /\ l <= u /\ u <= cap /\ (l < cap \/ l = 0)) (c (.s h b e base (k + l.toNat) (u.toNat - l.toNat) (cap - l.toNat)))
       | _, _ => .ff "slice: bounds"
     else .ff "slice: another size"
   | _ => .ff "slice: no slice"
 | .o h e x k => match C.P.underlying t with
   | some (.slice e') => if sizeT C.P e' = some (szE T e) then match S.ent h with
       | .O x' e2 xs => if e = e2 then match bound S lo 0, bound S hi k with
           | some l, some u => .fact (x = x') (.fact (k = xs.length /\ 0 <= l /\ l <= u /\ u <= k) (c (.ov h e x l.toNat u.toNat (sliceVal x l.toNat u.toNat (szE T e)))))
           | _, _ => .ff "slice: bounds"
         else .ff "slice: another type"
       | _ => .ff "slice: no row of its own"
     else .ff "slice: another size"
   | _ => .ff "slice: no slice"
 | .ov h e x a b _ => match C.P.underlying t with
   | some (.slice e') => if sizeT C.P e' = some (szE T e) then match S.ent h with
       | .O x' e2 xs => if e = e2 then match bound S lo 0, bound S hi (b - a : Nat) with
           | some l, some u => .fact (x = x') (.fact (a <= b /\ b <= xs.length /\ 0 <= l /\ l <= u /\ a + u.toNat <= xs.length) (.all Value fun v => c (.ov h e x (a + l.toNat) (a + u.toNat) v)))
           | _, _ => .ff "slice: bounds"
         else .ff "slice: another type"
       | _ => .ff "slice: no row of its own"
     else .ff "slice: another size"
   | _ => .ff "slice: no slice"
 | .w x m => match C.P.underlying t with
   | some (.slice e') => if sizeT C.P e' = some (szE T e') then match C.hintP t with
     | some _ => match bound S lo 0, bound S hi m with
       | some l, some u => .fact (0 <= l /\ l <= u /\ u <= capVal x) (c (.w (sliceVal x l.toNat u.toNat (szE T e')) (u.toNat - l.toNat)))
       | _, _ => .ff "slice: bounds"
     | none => match relOf S.H, bound S lo 0, bound S hi m with
       | some rel, some l, some u => .ex (List (T.El e')) fun xs => .fact (isRo rel e' x xs) (.asm (m = xs.length) (.fact (0 <= l /\ l <= u /\ u <= m) (c (.ro e' (sliceVal x l.toNat u.toNat (szE T e')) ((xs.take u.toNat).drop l.toNat)))))
       | _, _, _ => .ff "slice: bounds"
     else .ff "slice: another size"
   | _ => .ff "slice: no slice"
 | .ro e x xs => match C.P.underlying t with
   | some (.slice e') => if sizeT C.P e' = some (szE T e) then match bound S lo 0, bound S hi xs.length with
       | some l, some u => factB C.conc (0 <= l /\ l <= u /\ u <= xs.length) (c (.ro e (sliceVal x l.toNat u.toNat (szE T e)) ((xs.take u.toNat).drop l.toNat)))
       | _, _ => .ff "slice: bounds"
     else .ff "slice: another size"
   | _ => .ff "slice: no slice"
 | .v (.slice none 0 0) => match C.P.underlying t with
   | some (.slice e') => match sizeT C.P e', bound S lo 0, bound S hi 0 with
       | some _, some l, some u => .fact (l = 0 /\ u = 0) (c (.v (.slice none 0 0)))
       | _, _, _ => .ff "slice: bounds"
   | _ => .ff "slice: no slice"
 | _ => .ff "slice: of what?"

def lenSV : SV T -> Option Nat
 | .s _ _ _ _ _ len _ => some len
 | .o _ _ _ n => some n
 | .ov _ _ _ lo hi _ => some (hi - lo)
 | .w _ n => some n
 | .ro _ _ l => some l.length
 | .v (.slice _ n _) => some n
 | _ => none
def capSV : SV T -> Option Nat
 | .s _ _ _ _ _ _ cap => some cap
 | .o _ _ x _ => some (capVal x)
 | .ov _ _ x lo _ _ => some (capVal x - lo)
 | .w x _ => some (capVal x)
 | .v (.slice _ _ c) => some c
 | _ => none

def byteOf : Value -> UInt8
 | .int _ n => UInt8.ofNat n.toNat
 | _ => 0
def isBytes (l : List Value) : Prop := ∀ v ∈ l, ∃ n, v = .int .u8 n
def strOf (l : List Value) : ByteArray := ⟨(l.map byteOf).toArray⟩
def convW (C : Ctx T) (src dst : TypeId) (S : St T) (v : Value) (m : Nat) (c : SV T -> VCT) : VCT := match C.P.underlying src, C.P.underlying dst with
 | some (.slice e), some .string => match C.P.underlying e, relOf S.H with
   | some (.int .u8), some rel => if szE T e = 1 then .ex (List (T.El e)) fun l => .fact (isRo rel e v l) (.asm (m = l.length) (.fact (isBytes (l.flatMap (T.enc e).enc)) (c (.v (.string (strOf (l.flatMap (T.enc e).enc))))))) else .ff "convert"
   | _, _ => .ff "convert"
 | _, _ => .ff "convert"
def nilOK (P : Program) (t : TypeId) (name : String) : Bool := match P.info? t, P.underlying t with
 | some i, some _ => match i.methods.find? (·.name == name) with
   | some m => m.path.isEmpty && m.func.isSome
   | none => false
 | _, _ => false
def ptrEq (P : Program) (xt t : TypeId) : Bool := match P.underlying xt, P.info? t, P.underlying t with
 | some (.interface _), some i, some (.pointer e) => i.comparable && (match sizeT P e with | some n => n != 0 | none => false)
 | _, _, _ => false
def stx (C : Ctx T) (o : Oper) (S : St T) (c : SV T -> VCT) : VCT :=
 match o.op with
 | .move x | .assign x => match S.ev x with
   | some y => c y
   | none => .ff "a slot of which nothing is known"
 | .pick b x y => match S.ev b with
   | some (.v (.bool t)) => .br t (match S.ev x with | some u => c u | none => .ff "pick") (match S.ev y with | some u => c u | none => .ff "pick")
   | _ => .ff "pick"
 | .nilCheck x => match S.ev x with
   | some (.p h b o) => c (.p h b o)
   | some (.i t y) => c (.i t y)
   | some (.q h e x i f) => match S.ent h with
     | .O x' e' l => if e = e' then .fact (x = x' /\ i < l.length) (c (.q h e x i f)) else .ff "nilCheck"
     | _ => .ff "nilCheck"
   | some (.rq e x l i f) => factB C.conc (i < l.length) (c (.rq e x l i f))
   | some (.f (.func g) a b) => c (.f (.func g) a b)
   | some (.f (.method nm) [.i t (.p h b o')] q) => if nilOK C.P t nm = true then c (.f (.method nm) [.i t (.p h b o')] q) else .ff "nilCheck: a method"
   | _ => generic C o S c
 | .fieldAddr st x i => match fieldT C.P st i with
   | some f => match sizeT C.P f.type with
     | some n => if n = 0 then .ff "a field without cells" else match S.ev x with
       | some (.p h b o) => c (.p h b (o.add f.offset))
       | some (.q h e x i fl) => match S.ent h with
         | .O x' e' l => if e = e' then .fact (x = x' /\ i < l.length) (c (.q h e x i (fl + f.offset))) else .ff "fieldAddr"
         | _ => .ff "fieldAddr"
       | some (.rq e x l i fl) => factB C.conc (i < l.length) (c (.rq e x l i (fl + f.offset)))
       | _ => .ff "fieldAddr: of what?"
     | none => .ff "fieldAddr: no size"
   | none => .ff "fieldAddr: no field"
 | .load t x => match S.ev x with
   | some y => ptrLoad C t S y c
   | none => .ff "load"
 | .binOp op xt x y _ => match S.ev x, S.ev y with
   | some (.v (.int k a)), some (.v (.int k' b)) => match op with
     | .shl => factB C.conc (0 <= b) (c (.v (.int k (shlI k a b))))
     | .shr => factB C.conc (0 <= b) (c (.v (.int k (shrI k a b))))
     | op => if k = k' then binInt C.conc op k a b c else .ff "numbers of two kinds"
   | some (.v (.iface t (.pointer (some a)))), some (.v (.iface t' (.pointer (some b)))) => if t = t' /\ ptrEq C.P xt t = true then match op with
       | .eql => .fact (a = b) (c (.v (.bool true)))
       | .neq => .fact (a = b) (c (.v (.bool false)))
       | _ => .ff "an operation on memory"
     else generic C o S c
   | some (.v _), some (.v _) => generic C o S c
   | some u, some w => if nilFits C.P xt u w then match op with
       | .eql => c (.v (.bool false))
       | .neq => c (.v (.bool true))
       | _ => .ff "an operation on memory"
     else if isSl u && isNilSl w && isSliceT C.P xt then nilK S u (match op with
       | .eql => c (.v (.bool (nilB u.toV)))
       | .neq => c (.v (.bool (!nilB u.toV)))
       | _ => .ff "an operation on memory")
     else .ff "a comparison of memory"
   | _, _ => .ff "binOp"
 | .unOp op xt x => match S.ev x with
   | some (.v (.int k a)) => match op with
     | .neg => arith C.conc k (0 - a) c
     | .xor => c (.v (.int k (bitI .xor k (if k.signed then -1 else k.max) a)))
     | _ => .ff "unOp"
   | some (.v (.bool b)) => match op with
     | .not => c (.v (.bool !b))
     | _ => .ff "unOp"
   | _ => .ff "unOp"
 | .convert src dst x => match S.ev x with
   | some (.v (.int k n)) => match C.P.underlying src, C.P.underlying dst with
     | some _, some (.int .i64) => factB C.conc (inI64 n) (c (.v (.int .i64 n)))
     | some _, some (.int k') => c (.v (.int k' (k'.wrap n)))
     | _, _ => .ff "convert"
   | some (.w v m) => convW C src dst S v m c
   | _ => generic C o S c
 | .makeInterface t x => match C.P.underlying t, S.ev x with
   | some (.interface _), _ => .ff "makeInterface"
   | some _, some (.v y) => c (.v (.iface t y))
   | some _, some y => c (.i t y)
   | _, _ => .ff "makeInterface"
 | .makeFunc fn a b => match evL S a.toList, evL S b.toList with
   | some x, some y => c (.f fn x y)
   | _, _ => .ff "makeFunc"
 | .extract x i => match S.ev x with
   | some (.t xs) => match (xs[i]? : Option (SV T)) with
     | some y => c y
     | none => .ff "extract"
   | _ => generic C o S c
 | .field t x i => match S.ev x with
   | some (.a segs) => match fieldT C.P t i with
     | some f => match readS C.P f.type segs f.offset with
       | some y => c y
       | none => .ff "field"
     | none => .ff "field"
   | _ => generic C o S c
 | .build t ps => match evP S ps.toList, C.zt t with
   | some l, some z => match C.P.underlying t with
     | some (.struct fs) => match fs.toList.mapM (fun f => (C.P.info? f.type).map fun i => (f.offset, i.size)) with
       | some places => match buildS places l z with
         | some segs => c (.a segs)
         | none => .ff "build"
       | none => .ff "build: no sizes"
     | some (.array _ e) => match sizeT C.P e with
       | some n => match buildA n l z with
         | some segs => c (.a segs)
         | none => .ff "build"
       | none => .ff "build"
     | _ => .ff "build"
   | _, _ => .ff "build"
 | .indexAddr t x i => match S.ev x, idxInt S i with
   | some y, some n => viewK C t S y fun y => idxAddr C t S y n c
   | _, _ => .ff "indexAddr"
 | .index t x i => match S.ev x, idxInt S i with
   | some (.a [.r e k l]), some n => match C.P.underlying t with
     | some (.array len e') => if sizeT C.P e' = some (szE T e) /\ len = k then factB C.conc (0 <= n) (elemK C.conc C.P e' e l n.toNat 0 c) else .ff "index: another size"
     | _ => .ff "index"
   | _, _ => generic C o S c
 | .slice t x lo hi mx => match S.ev x with
   | some y => slicing C t S y lo hi mx c
   | none => .ff "slice"
 | .typeAssert x xt asserted ok => match S.ev x with
   | some (.i t y) => assertV C t (.i t y) y asserted ok c
   | some (.v (.iface t y)) => if y.oneCell' then assertV C t (.v (.iface t y)) (.v y) asserted ok c else .ff "a type assertion: many cells"
   | _ => generic C o S c
 | .call { callee := .builtin .len, args := args, argTypes := ts } => match args.toList, ts.toList with
   | [x], [t] => match C.P.underlying t, S.ev x with
     | some (.slice _), some y => match lenSV y with
       | some n => c (.v (.int .i64 n))
       | none => .ff "len"
     | some (.array n _), _ => c (.v (.int .i64 n))
     | some (.pointer a), _ => match C.P.underlying a with
       | some (.array n _) => c (.v (.int .i64 n))
       | _ => .ff "len"
     | _, _ => generic C o S c
   | _, _ => .ff "len"
 | .call { callee := .builtin .cap, args := args, argTypes := ts } => match args.toList, ts.toList with
   | [x], [t] => match C.P.underlying t, S.ev x with
     | some (.slice _), some y => match capSV y with
       | some n => c (.v (.int .i64 n))
       | none => .ff "cap"
     | _, _ => generic C o S c
   | _, _ => .ff "cap"
 | .call { callee := .builtin .max, args := args, argTypes := ts } => match args.toList with
   | [x, y] => match S.ev x, S.ev y with
     | some (.v (.int k a)), some (.v (.int k' b)) => if k = k' then c (.v (.int k (mxI a b))) else .ff "max"
     | _, _ => .ff "max"
   | _ => .ff "max"
 | .call { callee := .builtin .min, args := args, argTypes := ts } => match args.toList with
   | [x, y] => match S.ev x, S.ev y with
     | some (.v (.int k a)), some (.v (.int k' b)) => if k = k' then c (.v (.int k (mnI a b))) else .ff "min"
     | _, _ => .ff "min"
   | _ => .ff "min"
 | _ => .ff "not an operation that leaves memory alone"

def isStill : Op -> Bool
 | .move _ | .assign _ | .pick .. | .nilCheck _ | .fieldAddr .. | .load .. | .binOp .. | .unOp .. | .convert .. | .makeInterface .. | .makeFunc .. | .extract ..
 | .field .. | .build .. | .indexAddr .. | .index .. | .slice .. | .typeAssert .. => true
 | .call { callee := .builtin b, .. } => match b with
   | .len | .cap | .max | .min => true
   | _ => false
 | _ => false

end Go.Vg
/-
 The generator, part 3: what makes or writes memory, calls; regions; code; functions.
-/
set_option linter.unusedVariables false
namespace Go.Vg
variable {T : Tys}

abbrev PT (T : Tys) := List (SV T) -> List (Ent T) -> (SV T -> List (Ent T) -> VCT) -> (SV T -> List (Ent T) -> VCT) -> VCT

def decL (e : TypeId) : Nat -> List Value -> Option (List (T.El e))
 | 0, _ => some []
 | n + 1, l => match (T.enc e).dec (l.take (szE T e)), decL e n (l.drop (szE T e)) with
   | some x, some r => some (x :: r)
   | _, _ => none

def srcK (S : St T) (e : TypeId) (x : SV T) (k : List (T.El e) -> VCT) : VCT :=
 match x with
 | .v (.slice none 0 _) => k []
 | .ro e' _ l => if h : e' = e then k (h ▸ l) else .ff "source: another type"
 | .o h e' x n => match S.ent h with
   | .O x' e2 l => if h : e2 = e then .fact (x = x' /\ n = l.length) (k (h ▸ l)) else .ff "source: another type"
   | _ => .ff "source: no row of its own"
 | .w x m => match relOf S.H with
   | some rel => .ex (List (T.El e)) fun l => .fact (isRo rel e x l) (.asm (m = l.length) (k l))
   | none => .ff "source: nothing is known"
 | .ov h e' x lo hi _ => match S.ent h with
   | .O x' e2 l => if h : e2 = e then if e' = e then .fact (x = x' /\ lo <= hi /\ hi <= l.length) (k (((h ▸ l : List (T.El e)).take hi).drop lo)) else .ff "source: another type" else .ff "source: another type"
   | _ => .ff "source: no row of its own"
 | .s h b e' base lo len cap => match S.ent h with
   | .B b' _ segs => match findR segs base with
     | some (.mk e2 n l) => if h : e2 = e then if e' = e then .fact (b = b' /\ lo + len <= l.length) (k (((h ▸ l : List (T.El e)).take (lo + len)).drop lo)) else .ff "source: another type" else .ff "source: another type"
     | none => if e' = e then match subS segs (base + lo * szE T e) (len * szE T e) with
       | some xs => match decL e len (Seg.cellsL xs) with
         | some l => .fact (b = b') (k l)
         | none => .ff "source: no elements"
       | none => .ff "source: no such cells" else .ff "source: another type"
   | _ => .ff "source: no block"
 | _ => .ff "source: of what?"

def atK {α : Type} (cc : Bool) (l : List α) (i : Nat) (k : α -> VCT) : VCT := cond cc (match l[i]? with
 | some z => k z
 | none => .ff "no such element") (.fact (i < l.length) (.all α fun z => .asm (l[i]? = some z) (k z)))
theorem atK_den {α : Type} {cc : Bool} {l : List α} {i : Nat} {k : α -> VCT} (h : (atK cc l i k).den) : ∃ z, l[i]? = some z /\ i < l.length /\ (k z).den := by
 have lt : ∀ z, l[i]? = some z -> i < l.length := fun z hz => by
   rcases Nat.lt_or_ge i l.length with h0 | h0
   . exact h0
   . rw [List.getElem?_eq_none h0] at hz; cases hz
 cases cc with
 | false => obtain ⟨h1, h2⟩ := h; exact ⟨l[i], List.getElem?_eq_getElem h1, h1, h2 _ (List.getElem?_eq_getElem h1)⟩
 | true =>
   simp only [atK, cond] at h
   split at h
   . rename_i z hz; exact ⟨z, hz, lt z hz, h⟩
   . exact h.elim
def ptrStore (C : Ctx T) (t : TypeId) (S : St T) (x y : SV T) (next : St T -> VCT) : VCT :=
 match x with
 | .p h b (.lit o) => match S.ent h with
   | .B b' ty segs => match sizeT C.P t with
     | some n => if segsLen y.segs = n then match (match n, y.segs with
           | 1, [.c u] => setC segs o u
           | n, ys => putS segs o n ys) with
         | some segs' => .fact (b = b') (next (S.setEnt h (.B b' ty segs')))
         | none => .ff "store: no such cells"
       else .ff "store: another size"
     | none => .ff "store: no size"
   | _ => .ff "store: no block"
 | .p h b (.el base i sz fld) => match S.ent h with
   | .B b' ty segs => match findR segs base with
     | some (.mk e n l) => if sz = szE T e then match sizeT C.P t with
         | some m => if fld = 0 /\ m = sz then match (T.enc e).dec (Seg.cellsL y.segs) with
             | some u => match setR e n (l.set i u) segs base with
               | some segs' => .fact (b = b' /\ i < l.length) (next (S.setEnt h (.B b' ty segs')))
               | none => .ff "store: no row"
             | none => .ff "store: no element"
           else .fact (b = b') (atK C.conc l i fun z =>
             (match (T.enc e).dec (((T.enc e).enc z).take fld ++ Seg.cellsL y.segs ++ ((T.enc e).enc z).drop (fld + m)) with
             | some u => match setR e n (l.set i u) segs base with
               | some segs' => if segsLen y.segs = m /\ fld + m <= sz then next (S.setEnt h (.B b' ty segs')) else .ff "store: another size"
               | none => .ff "store: no row"
             | none => .ff "store: no element"))
         | none => .ff "store: no size"
       else .ff "store: another size"
     | none => .ff "store: no row"
   | _ => .ff "store: no block"
 | .q h e x i fld => match S.ent h with
   | .O x' e' l => if e = e' then match sizeT C.P t with
       | some m => if fld = 0 /\ m = szE T e' then match (T.enc e').dec (Seg.cellsL y.segs) with
           | some u => .fact (x = x' /\ i < l.length) (next (S.setEnt h (.O x' e' (l.set i u))))
           | none => .ff "store: no element"
         else .fact (x = x') (atK C.conc l i fun z =>
           (match (T.enc e').dec (((T.enc e').enc z).take fld ++ Seg.cellsL y.segs ++ ((T.enc e').enc z).drop (fld + m)) with
           | some u => if segsLen y.segs = m /\ fld + m <= szE T e' then next (S.setEnt h (.O x' e' (l.set i u))) else .ff "store: another size"
           | none => .ff "store: no element"))
       | none => .ff "store: no size"
     else .ff "store: another type"
   | _ => .ff "store: no row of its own"
 | _ => .ff "store: of what?"

def bytesT (P : Program) (t : TypeId) : Option Nat := (P.info? t).map (·.bytes)
def appendK (C : Ctx T) (o : Oper) (S : St T) (t : TypeId) (dst src : SV T) (next : St T -> VCT) : VCT :=
 match C.P.underlying t with
 | some (.slice e) => match (C.P.info? e).bind (·.zero), bytesT C.P e, sizeT C.P e with
   | some z, some by_, some sz => if sz = szE T e /\ sz ≠ 0 /\ z.cells.size = sz then match dst with
     | .v (.slice none 0 0) => srcK S e src fun news => factB C.conc (room news.length by_) (.all Value fun x =>
         next ((S.push (.O x e news)).set o.dst (.o S.H.length e x news.length)))
     | .o h e' x n => match S.ent h with
       | .O x' e2 l => if h2 : e2 = e then .fact (x = x' /\ n = l.length) (srcK S e src fun news => factB C.conc (room (l.length + news.length) by_) (.all Value fun y =>
           next ((S.setEnt h (.O y e ((h2 ▸ l) ++ news))).set o.dst (.o h e y (n + news.length)))))
         else .ff "append: another type"
       | _ => .ff "append: no row of its own"
     | .ov h e' x 0 hi _ => match S.ent h with
       | .O x' e2 l => if h2 : e2 = e then if e' = e then .fact (x = x' /\ hi <= l.length) (srcK S e src fun news => factB C.conc (room (hi + news.length) by_) (.all Value fun y =>
           next ((S.setEnt h (.O y e ((h2 ▸ l : List (T.El e)).take hi ++ news))).set o.dst (.o h e y (hi + news.length))))) else .ff "append: another type"
         else .ff "append: another type"
       | _ => .ff "append: no row of its own"
     | _ => .ff "append: onto what?"
     else .ff "append: another size"
   | _, _, _ => .ff "append: no size"
 | _ => .ff "append: no slice"

def zerosK (C : Ctx T) (o : Oper) (S : St T) (t t' : TypeId) (dst src : SV T) (next : St T -> VCT) : VCT :=
 match C.P.underlying t, C.P.underlying t', dst, src with
 | some (.slice e), some (.int _), .v (.slice none 0 0), .v (.int _ n) => match (C.P.info? e).bind (·.zero), bytesT C.P e, sizeT C.P e with
   | some z, some by_, some sz => if sz = szE T e /\ sz ≠ 0 /\ z.cells.size = sz then match (T.enc e).dec z.cells.toList with
       | some u => factB C.conc (0 < n /\ room n.toNat by_) (.all (Value × Nat) fun x => .asm (capVal x.1 = n.toNat + x.2 /\ capVal x.1 <= 9223372036854775807)
           (next ((S.push (.O x.1 e (List.replicate (n.toNat + x.2) u))).set o.dst (.ov S.H.length e x.1 0 n.toNat (sliceVal x.1 0 n.toNat (szE T e))))))
       | none => .ff "append: no element"
     else .ff "append: another size"
   | _, _, _ => .ff "append: no size"
 | _, _, _, _ => .ff "append: zeros"

def copyK (C : Ctx T) (o : Oper) (S : St T) (t : TypeId) (dst src : SV T) (next : St T -> VCT) : VCT :=
 match C.P.underlying t with
 | some (.slice e) => if sizeT C.P e = some (szE T e) then match dst with
   | .s h b e' base lo len cap => match S.ent h with
     | .B b' ty segs => match findR segs base with
       | some (.mk e2 k l) => if h2 : e2 = e then if e' = e then srcK S e src fun news =>
           let n := min news.length len
           match setR e k ((h2 ▸ l : List (T.El e)).take lo ++ news.take n ++ (h2 ▸ l : List (T.El e)).drop (lo + n)) segs base with
           | some segs' => .fact (b = b' /\ lo + len <= l.length) (next ((S.setEnt h (.B b' ty segs')).set o.dst (.v (.int .i64 n))))
           | none => .ff "copy: no row"
         else .ff "copy: another type" else .ff "copy: another type"
       | none => .ff "copy: no row"
     | _ => .ff "copy: no block"
   | .o h e' x k => match S.ent h with
     | .O x' e2 l => if h2 : e2 = e then .fact (x = x' /\ k = l.length) (srcK S e src fun news =>
         next ((S.setEnt h (.O x' e (news.take (min news.length k) ++ (h2 ▸ l : List (T.El e)).drop (min news.length k)))).set o.dst (.v (.int .i64 (min news.length k : Nat)))))
       else .ff "copy: another type"
     | _ => .ff "copy: no row of its own"
   | .ov h e' x lo hi _ => match S.ent h with
     | .O x' e2 l => if h2 : e2 = e then if e' = e then .fact (x = x' /\ lo <= hi /\ hi <= l.length) (srcK S e src fun news =>
         let n := min news.length (hi - lo)
         next ((S.setEnt h (.O x' e ((h2 ▸ l : List (T.El e)).take lo ++ news.take n ++ (h2 ▸ l : List (T.El e)).drop (lo + n)))).set o.dst (.v (.int .i64 n))))
       else .ff "copy: another type" else .ff "copy: another type"
     | _ => .ff "copy: no row of its own"
   | .v (.slice none 0 _) => srcK S e src fun _ => next (S.set o.dst (.v (.int .i64 0)))
   | _ => .ff "copy: onto what?"
   else .ff "copy: another size"
 | _ => .ff "copy: no slice"

def methodOf (P : Program) (t : TypeId) (name : String) : Option Nat :=
 match P.info? t with
 | some i => match i.methods.find? (·.name == name) with
   | some m => if m.path.isEmpty then match m.func, P.underlying t with
       | some (f, true), some (.pointer _) => some f
       | some (f, false), some (.pointer _) => none
       | some (f, false), some _ => some f
       | _, _ => none
     else none
   | none => none
 | none => none


/-! What is known of rows that are left behind. -/
def hasRo : List (Seg T) -> Bool
 | [] => false
 | .c (.ro _ _ _) :: _ => true
 | _ :: r => hasRo r
def noteS : List (Seg T) -> Rel T -> Rel T
 | [], rel => rel
 | .c (.ro e x l) :: r, rel => noteS r (relAdd1 rel e x l)
 | _ :: r, rel => noteS r rel
def updR (f : Rel T -> Rel T) : List (Ent T) -> List (Ent T)
 | [] => []
 | .R rel :: r => .R (f rel) :: r
 | x :: r => x :: updR f r
def St.note (S : St T) (segs : List (Seg T)) : St T := if hasRo segs then { S with H := updR (noteS segs) S.H } else S
def notePs : List (Nat × SV T) -> St T -> St T
 | [], S => S
 | (_, x) :: r, S => notePs r (S.note x.segs)
def absE : Ent T -> Rel T -> Rel T
 | .O x e l, rel => relAdd rel e x l
 | _, rel => rel
def absL : List (Ent T) -> Rel T -> Rel T
 | [], rel => rel
 | x :: r, rel => absL r (absE x rel)
def absK : List (Ent T) -> Rel T -> (Rel T -> VCT) -> VCT
 | [], rel, k => k rel
 | .O x e l :: r, rel, k => absK r (relAdd rel e x l) k
 | .B _ _ _ :: r, rel, k => absK r rel k
 | .F _ :: r, rel, k => absK r rel k
 | .R _ :: r, rel, k => absK r rel k
 | .X :: r, rel, k => absK r rel k
theorem absK_eq : ∀ (es : List (Ent T)) (rel : Rel T) (k : Rel T -> VCT), absK es rel k = k (absL es rel)
 | [], _, _ => rfl
 | .O x e l :: r, rel, k => by rw [absK, absK_eq r]; rfl
 | .B _ _ _ :: r, rel, k => by rw [absK, absK_eq r]; rfl
 | .F _ :: r, rel, k => by rw [absK, absK_eq r]; rfl
 | .R _ :: r, rel, k => by rw [absK, absK_eq r]; rfl
 | .X :: r, rel, k => by rw [absK, absK_eq r]; rfl
def updRK (gone : List (Ent T)) : List (Ent T) -> (List (Ent T) -> VCT) -> VCT
 | [], k => k []
 | .R rel :: r, k => absK gone rel fun rel => k (.R rel :: r)
 | .B b t xs :: r, k => updRK gone r fun r' => k (.B b t xs :: r')
 | .O x e l :: r, k => updRK gone r fun r' => k (.O x e l :: r')
 | .F m :: r, k => updRK gone r fun r' => k (.F m :: r')
 | .X :: r, k => updRK gone r fun r' => k (.X :: r')
theorem updRK_eq (gone : List (Ent T)) : ∀ (H : List (Ent T)) (k : List (Ent T) -> VCT), updRK gone H k = k (updR (absL gone) H)
 | [], _ => rfl
 | .R rel :: r, k => by rw [updRK, absK_eq]; rfl
 | .B _ _ _ :: r, k => by rw [updRK, updRK_eq gone r]; rfl
 | .O _ _ _ :: r, k => by rw [updRK, updRK_eq gone r]; rfl
 | .F _ :: r, k => by rw [updRK, updRK_eq gone r]; rfl
 | .X :: r, k => by rw [updRK, updRK_eq gone r]; rfl
def absorb (n : Nat) (H : List (Ent T)) : List (Ent T) := if n < H.length then updR (absL (H.drop n)) (H.take n) else H

/-! Slices that are put into rows: their values are taken apart. -/
def opnV : SV T -> (SV T -> VCT) -> VCT
 | .o h e x n, k => .all (Option Addr) fun A => .all Nat fun c => .asm (x = .slice A n c) (k (.o h e (.slice A n c) n))
 | .ro e x l, k => .all (Option Addr) fun A => .all Nat fun c => .asm (x = .slice A l.length c) (k (.ro e (.slice A l.length c) l))
 | .ov h e x lo hi v, k => .all (Option Addr) fun A => .all Nat fun c => .asm (v = .slice A (hi - lo) c) (k (.ov h e x lo hi (.slice A (hi - lo) c)))
 | x, k => k x
def opnS : List (Seg T) -> (List (Seg T) -> VCT) -> VCT
 | [], k => k []
 | .c x :: r, k => opnV x fun x => opnS r fun r => k (.c x :: r)
 | .r e n l :: r, k => opnS r fun r => k (.r e n l :: r)
def opn : SV T -> (SV T -> VCT) -> VCT
 | .a xs, k => opnS xs fun xs => k (.a xs)
 | x, k => opnV x k
def opnTo (u w : SV T) (k : SV T -> VCT) : VCT := match u with
 | .p _ _ (.lit _) => k w
 | _ => opn w k
def opnPs : List (Nat × SV T) -> (List (Nat × SV T) -> VCT) -> VCT
 | [], k => k []
 | (i, x) :: r, k => opn x fun x => opnPs r fun r => k ((i, x) :: r)

def sameOp : Operand -> Operand -> Bool
 | .tmp a, .tmp b => Nat.beq a b
 | .const (.int _ a), .const (.int _ b) => decide (a = b)
 | _, _ => false
def callK (sp : Nat -> Option (PT T)) (o : Oper) (S : St T) (f : Nat) (args : List (SV T)) (next : St T -> VCT) (pan : SV T -> St T -> VCT) : VCT :=
 match sp f with
 | some pt => pt args S.H (fun r H => next (({ S with H := H } : St T).set o.dst r)) (fun x H => pan x { S with H := H })
 | none => .ff "a call of a function without a contract"

def opx (C : Ctx T) (sp : Nat -> Option (PT T)) (o : Oper) (S : St T) (next : St T -> VCT) (pan : SV T -> St T -> VCT) : VCT :=
 if isStill o.op then stx C o S fun y => next (S.set o.dst y) else
 match o.op with
 | .alloc t => match C.zt t with
   | some segs => .all Nat fun b => next ((S.push (.B b t segs)).set o.dst (.p S.H.length b (.lit 0)))
   | none => .ff "alloc: an unknown type"
 | .box t x => match S.ev x with
   | some (.t _) => .ff "box"
   | some .un => .ff "box"
   | some y => .all Nat fun b => next ((S.push (.B b t y.segs)).set o.dst (.p S.H.length b (.lit 0)))
   | none => .ff "box"
 | .store t x y => match S.ev x, S.ev y with
   | some _, some (.t _) => .ff "store"
   | some _, some .un => .ff "store"
   | some u, some w => opnTo u w fun w => ptrStore C t (S.note w.segs) u w fun S' => next (S'.set o.dst .un)
   | _, _ => .ff "store"
 | .buildSlice t len ps => match C.P.underlying t with
   | some (.slice e) => match C.zt e, evP S ps.toList, sizeT C.P e with
     | some z, some l, some n => opnPs l fun l => let S := notePs l S;  if segsLen z = n /\ n ≠ 0 /\ len * n <= 16777216 then match buildA n l (List.replicate len z).flatten with
         | some segs => .all Nat fun b => match (if n = szE T e /\ segsLen segs = len * n then decL e len (Seg.cellsL segs) else none) with
           | some xs => next ((S.push (.O (.slice (some ⟨b, 0, none⟩) len len) e xs)).set o.dst (.o S.H.length e (.slice (some ⟨b, 0, none⟩) len len) len))
           | none => if n = szE T e then next ((S.push (.B b e segs)).set o.dst (.s S.H.length b e 0 0 len len)) else .ff "buildSlice: another size"
         | none => .ff "buildSlice"
       else .ff "buildSlice: another size"
     | _, _, _ => .ff "buildSlice"
   | _ => .ff "buildSlice"
 | .makeSlice t l c => match C.P.underlying t, idxInt S l, idxInt S c with
   | some (.slice e), some n, some m => match C.zt e, bytesT C.P e, sizeT C.P e with
     | some z, some by_, some sz => if sz = szE T e /\ sz ≠ 0 then match (T.enc e).dec (Seg.cellsL z) with
         | some u => factB C.conc (0 <= n /\ n <= m /\ room m.toNat by_) (.all Value fun x => if (sameOp l c || C.tight) = true then next ((S.push (.O x e (List.replicate n.toNat u))).set o.dst (.o S.H.length e x n.toNat))
             else .asm (capVal x = m.toNat) (next ((S.push (.O x e (List.replicate m.toNat u))).set o.dst (.ov S.H.length e x 0 n.toNat (sliceVal x 0 n.toNat (szE T e))))))
         | none => .ff "make: no element"
       else .ff "make: another size"
     | _, _, _ => .ff "make"
   | _, _, _ => .ff "make"
 | .convert src dst x => match C.P.underlying src, C.P.underlying dst, S.ev x with
   | some (.slice e), some .string, some y => match C.P.underlying e with
     | some (.int .u8) => if szE T e = 1 then srcK S e y fun l => .fact (isBytes (l.flatMap (T.enc e).enc)) (next (S.set o.dst (.v (.string (strOf (l.flatMap (T.enc e).enc)))))) else .ff "convert"
     | _ => .ff "convert"
   | _, _, _ => .ff "convert"
 | .panic x => match S.ev x with
   | some (.i t y) => pan (.i t y) S
   | some (.v (.iface t y)) => pan (.v (.iface t y)) S
   | _ => .ff "panic"
 | .call c => match c.callee with
   | .builtin .append => match c.args.toList, c.argTypes.toList with
     | [x, y], [t, t'] => if t = t' then match S.ev x, S.ev y with
         | some u, some w => appendK C o S t u w next
         | _, _ => .ff "append"
       else match S.ev x, S.ev y with
         | some u, some w => zerosK C o S t t' u w next
         | _, _ => .ff "append: two types"
     | _, _ => .ff "append"
   | .builtin .copy => match c.args.toList, c.argTypes.toList with
     | [x, y], [t, t'] => if t = t' then match S.ev x, S.ev y with
         | some u, some w => copyK C o S t u w next
         | _, _ => .ff "copy"
       else .ff "copy: two types"
     | _, _ => .ff "copy"
   | .builtin _ => .ff "a builtin"
   | .value (.func f) => match evL S c.args.toList with
     | some args => callK sp o S f args next pan
     | none => .ff "call: an unknown argument"
   | .value g => match S.ev g, evL S c.args.toList with
     | some (.f (.func f) a b), some args => callK sp o S f (a ++ args ++ b) next pan
     | some (.v (.func (.func f) p q)), some args => if p.size = 0 /\ q.size = 0 then callK sp o S f args next pan else .ff "call: captured values"
     | _, _ => .ff "call: of what?"
   | .invoke r name => match S.ev r, evL S c.args.toList with
     | some (.i t y), some args => match methodOf C.P t name with
       | some f => callK sp o S f (y :: args) next pan
       | none => .ff "invoke: no such method"
     | some (.v (.iface t y)), some args => match methodOf C.P t name with
       | some f => if y.oneCell' then callK sp o S f (.v y :: args) next pan else .ff "invoke: many cells"
       | none => .ff "invoke: no such method"
     | _, _ => .ff "invoke: of what?"
 | _ => .ff "an operation that the generator lacks"

/-! The kernel reckons by need: what is laid into the state is brought into its form at once. -/
inductive LT where
 | lf (n : Nat)
 | nd (a b : LT)
def LT.get : LT -> Nat -> Nat
 | .lf n, _ => n
 | .nd a b, i => cond (Nat.beq (Nat.mod i 2) 0) (a.get (Nat.div i 2)) (b.get (Nat.div i 2))
def q8 (a b c d e f g h : Nat) : LT := .nd (.nd (.nd (.lf a) (.lf b)) (.nd (.lf c) (.lf d))) (.nd (.nd (.lf e) (.lf f)) (.nd (.lf g) (.lf h)))
def lt0 : LT := .nd (.nd (q8 0 512 256 768 128 640 384 896) (q8 64 576 320 832 192 704 448 960)) (.nd (q8 32 544 288 800 160 672 416 928) (q8 96 608 352 864 224 736 480 992))
def lt1 : LT := .nd (.nd (q8 1 513 257 769 129 641 385 897) (q8 65 577 321 833 193 705 449 961)) (.nd (q8 33 545 289 801 161 673 417 929) (q8 97 609 353 865 225 737 481 993))
def lt2 : LT := .nd (.nd (q8 2 514 258 770 130 642 386 898) (q8 66 578 322 834 194 706 450 962)) (.nd (q8 34 546 290 802 162 674 418 930) (q8 98 610 354 866 226 738 482 994))
def lt3 : LT := .nd (.nd (q8 3 515 259 771 131 643 387 899) (q8 67 579 323 835 195 707 451 963)) (.nd (q8 35 547 291 803 163 675 419 931) (q8 99 611 355 867 227 739 483 995))
def lt4 : LT := .nd (.nd (q8 4 516 260 772 132 644 388 900) (q8 68 580 324 836 196 708 452 964)) (.nd (q8 36 548 292 804 164 676 420 932) (q8 100 612 356 868 228 740 484 996))
def lt5 : LT := .nd (.nd (q8 5 517 261 773 133 645 389 901) (q8 69 581 325 837 197 709 453 965)) (.nd (q8 37 549 293 805 165 677 421 933) (q8 101 613 357 869 229 741 485 997))
def lt6 : LT := .nd (.nd (q8 6 518 262 774 134 646 390 902) (q8 70 582 326 838 198 710 454 966)) (.nd (q8 38 550 294 806 166 678 422 934) (q8 102 614 358 870 230 742 486 998))
def lt7 : LT := .nd (.nd (q8 7 519 263 775 135 647 391 903) (q8 71 583 327 839 199 711 455 967)) (.nd (q8 39 551 295 807 167 679 423 935) (q8 103 615 359 871 231 743 487 999))
def lt8 : LT := .nd (.nd (q8 8 520 264 776 136 648 392 904) (q8 72 584 328 840 200 712 456 968)) (.nd (q8 40 552 296 808 168 680 424 936) (q8 104 616 360 872 232 744 488 1000))
def lt9 : LT := .nd (.nd (q8 9 521 265 777 137 649 393 905) (q8 73 585 329 841 201 713 457 969)) (.nd (q8 41 553 297 809 169 681 425 937) (q8 105 617 361 873 233 745 489 1001))
def lt10 : LT := .nd (.nd (q8 10 522 266 778 138 650 394 906) (q8 74 586 330 842 202 714 458 970)) (.nd (q8 42 554 298 810 170 682 426 938) (q8 106 618 362 874 234 746 490 1002))
def lt11 : LT := .nd (.nd (q8 11 523 267 779 139 651 395 907) (q8 75 587 331 843 203 715 459 971)) (.nd (q8 43 555 299 811 171 683 427 939) (q8 107 619 363 875 235 747 491 1003))
def lt12 : LT := .nd (.nd (q8 12 524 268 780 140 652 396 908) (q8 76 588 332 844 204 716 460 972)) (.nd (q8 44 556 300 812 172 684 428 940) (q8 108 620 364 876 236 748 492 1004))
def lt13 : LT := .nd (.nd (q8 13 525 269 781 141 653 397 909) (q8 77 589 333 845 205 717 461 973)) (.nd (q8 45 557 301 813 173 685 429 941) (q8 109 621 365 877 237 749 493 1005))
def lt14 : LT := .nd (.nd (q8 14 526 270 782 142 654 398 910) (q8 78 590 334 846 206 718 462 974)) (.nd (q8 46 558 302 814 174 686 430 942) (q8 110 622 366 878 238 750 494 1006))
def lt15 : LT := .nd (.nd (q8 15 527 271 783 143 655 399 911) (q8 79 591 335 847 207 719 463 975)) (.nd (q8 47 559 303 815 175 687 431 943) (q8 111 623 367 879 239 751 495 1007))
def lt16 : LT := .nd (.nd (q8 16 528 272 784 144 656 400 912) (q8 80 592 336 848 208 720 464 976)) (.nd (q8 48 560 304 816 176 688 432 944) (q8 112 624 368 880 240 752 496 1008))
def lt17 : LT := .nd (.nd (q8 17 529 273 785 145 657 401 913) (q8 81 593 337 849 209 721 465 977)) (.nd (q8 49 561 305 817 177 689 433 945) (q8 113 625 369 881 241 753 497 1009))
def lt18 : LT := .nd (.nd (q8 18 530 274 786 146 658 402 914) (q8 82 594 338 850 210 722 466 978)) (.nd (q8 50 562 306 818 178 690 434 946) (q8 114 626 370 882 242 754 498 1010))
def lt19 : LT := .nd (.nd (q8 19 531 275 787 147 659 403 915) (q8 83 595 339 851 211 723 467 979)) (.nd (q8 51 563 307 819 179 691 435 947) (q8 115 627 371 883 243 755 499 1011))
def lt20 : LT := .nd (.nd (q8 20 532 276 788 148 660 404 916) (q8 84 596 340 852 212 724 468 980)) (.nd (q8 52 564 308 820 180 692 436 948) (q8 116 628 372 884 244 756 500 1012))
def lt21 : LT := .nd (.nd (q8 21 533 277 789 149 661 405 917) (q8 85 597 341 853 213 725 469 981)) (.nd (q8 53 565 309 821 181 693 437 949) (q8 117 629 373 885 245 757 501 1013))
def lt22 : LT := .nd (.nd (q8 22 534 278 790 150 662 406 918) (q8 86 598 342 854 214 726 470 982)) (.nd (q8 54 566 310 822 182 694 438 950) (q8 118 630 374 886 246 758 502 1014))
def lt23 : LT := .nd (.nd (q8 23 535 279 791 151 663 407 919) (q8 87 599 343 855 215 727 471 983)) (.nd (q8 55 567 311 823 183 695 439 951) (q8 119 631 375 887 247 759 503 1015))
def lt24 : LT := .nd (.nd (q8 24 536 280 792 152 664 408 920) (q8 88 600 344 856 216 728 472 984)) (.nd (q8 56 568 312 824 184 696 440 952) (q8 120 632 376 888 248 760 504 1016))
def lt25 : LT := .nd (.nd (q8 25 537 281 793 153 665 409 921) (q8 89 601 345 857 217 729 473 985)) (.nd (q8 57 569 313 825 185 697 441 953) (q8 121 633 377 889 249 761 505 1017))
def lt26 : LT := .nd (.nd (q8 26 538 282 794 154 666 410 922) (q8 90 602 346 858 218 730 474 986)) (.nd (q8 58 570 314 826 186 698 442 954) (q8 122 634 378 890 250 762 506 1018))
def lt27 : LT := .nd (.nd (q8 27 539 283 795 155 667 411 923) (q8 91 603 347 859 219 731 475 987)) (.nd (q8 59 571 315 827 187 699 443 955) (q8 123 635 379 891 251 763 507 1019))
def lt28 : LT := .nd (.nd (q8 28 540 284 796 156 668 412 924) (q8 92 604 348 860 220 732 476 988)) (.nd (q8 60 572 316 828 188 700 444 956) (q8 124 636 380 892 252 764 508 1020))
def lt29 : LT := .nd (.nd (q8 29 541 285 797 157 669 413 925) (q8 93 605 349 861 221 733 477 989)) (.nd (q8 61 573 317 829 189 701 445 957) (q8 125 637 381 893 253 765 509 1021))
def lt30 : LT := .nd (.nd (q8 30 542 286 798 158 670 414 926) (q8 94 606 350 862 222 734 478 990)) (.nd (q8 62 574 318 830 190 702 446 958) (q8 126 638 382 894 254 766 510 1022))
def lt31 : LT := .nd (.nd (q8 31 543 287 799 159 671 415 927) (q8 95 607 351 863 223 735 479 991)) (.nd (q8 63 575 319 831 191 703 447 959) (q8 127 639 383 895 255 767 511 1023))
def litT : LT := (.nd (.nd (.nd (.nd (.nd lt0 lt16) (.nd lt8 lt24)) (.nd (.nd lt4 lt20) (.nd lt12 lt28))) (.nd (.nd (.nd lt2 lt18) (.nd lt10 lt26)) (.nd (.nd lt6 lt22) (.nd lt14 lt30)))) (.nd (.nd (.nd (.nd lt1 lt17) (.nd lt9 lt25)) (.nd (.nd lt5 lt21) (.nd lt13 lt29))) (.nd (.nd (.nd lt3 lt19) (.nd lt11 lt27)) (.nd (.nd lt7 lt23) (.nd lt15 lt31)))))
def LT.walk : LT -> Nat -> (Nat -> VCT) -> VCT
 | .lf n, _, k => k n
 | .nd a b, i, k => cond (Nat.beq (Nat.mod i 2) 0) (a.walk (Nat.div i 2) k) (b.walk (Nat.div i 2) k)
theorem LT.walk_eq : ∀ (t : LT) (i : Nat) (k : Nat -> VCT), t.walk i k = k (t.get i)
 | .lf n, i, k => rfl
 | .nd a b, i, k => by
   simp only [LT.walk, LT.get]
   cases Nat.beq (Nat.mod i 2) 0
   . exact LT.walk_eq b _ k
   . exact LT.walk_eq a _ k
def forceNat (n : Nat) (k : Nat -> VCT) : VCT := cond (Nat.ble n 1023) (litT.walk n k) (k n)
theorem litT_all : (List.range 1024).all (fun n => Nat.beq (litT.get n) n) = true := by decide +kernel
theorem forceNat_eq (n : Nat) (k : Nat -> VCT) : forceNat n k = k n := by
 unfold forceNat
 cases h : Nat.ble n 1023 with
 | false => rfl
 | true =>
   have h1 := List.all_eq_true.1 litT_all n (List.mem_range.2 (by have := Nat.le_of_ble_eq_true h; omega))
   simp only [cond, LT.walk_eq]
   rw [Nat.eq_of_beq_eq_true h1]
def forceOff : Off -> (Off -> VCT) -> VCT
 | .lit n, k => forceNat n fun n => k (.lit n)
 | .el b i s f, k => forceNat b fun b => forceNat s fun s => forceNat f fun f => k (.el b i s f)
theorem forceOff_eq (o : Off) (k : Off -> VCT) : forceOff o k = k o := by cases o <;> simp [forceOff, forceNat_eq]
def forceSV : SV T -> (SV T -> VCT) -> VCT
 | .un, k => k .un
 | .v x, k => k (.v x)
 | .p h b o, k => forceNat h fun h => forceOff o fun o => k (.p h b o)
 | .s h b e base lo len cap, k => forceNat h fun h => forceNat base fun base => k (.s h b e base lo len cap)
 | .o h e x n, k => forceNat h fun h => k (.o h e x n)
 | .ov h e x lo hi v, k => forceNat h fun h => k (.ov h e x lo hi v)
 | .w x n, k => k (.w x n)
 | .q h e x i fld, k => forceNat h fun h => forceNat fld fun fld => k (.q h e x i fld)
 | .ro e x l, k => k (.ro e x l)
 | .rq e x l i fld, k => k (.rq e x l i fld)
 | .i t x, k => k (.i t x)
 | .a xs, k => k (.a xs)
 | .t xs, k => k (.t xs)
 | .f fn a b, k => k (.f fn a b)
theorem forceSV_eq (x : SV T) (k : SV T -> VCT) : forceSV x k = k x := by cases x <;> simp [forceSV, forceNat_eq, forceOff_eq]
def forceFm : Fm T -> (Fm T -> VCT) -> VCT
 | .l none, k => k (.l none)
 | .l (some x), k => forceSV x fun x => k (.l (some x))
 | .n a b, k => forceFm a fun a => forceFm b fun b => k (.n a b)
theorem forceFm_eq (f : Fm T) (k : Fm T -> VCT) : forceFm f k = k f := by
 induction f generalizing k with
 | l x => cases x <;> simp [forceFm, forceSV_eq]
 | n a b iha ihb => simp [forceFm, iha, ihb]
def forceP : Fm T -> Nat -> (Fm T -> VCT) -> VCT
 | .l none, _, k => k (.l none)
 | .l (some x), _, k => forceSV x fun x => k (.l (some x))
 | .n a b, i, k => cond (Nat.beq (Nat.mod i 2) 0) (forceP a (Nat.div i 2) fun a => k (.n a b)) (forceP b (Nat.div i 2) fun b => k (.n a b))
theorem forceP_eq (f : Fm T) (i : Nat) (k : Fm T -> VCT) : forceP f i k = k f := by
 induction f generalizing k i with
 | l x => cases x <;> simp [forceP, forceSV_eq]
 | n a b iha ihb =>
   simp only [forceP, iha, ihb]
   cases Nat.beq (Nat.mod i 2) 0 <;> rfl
def forceSegs : List (Seg T) -> (List (Seg T) -> VCT) -> VCT
 | [], k => k []
 | .c x :: r, k => forceSV x fun x => forceSegs r fun r' => k (.c x :: r')
 | .r e n l :: r, k => forceSegs r fun r' => k (.r e n l :: r')
theorem forceSegs_eq (l : List (Seg T)) (k : List (Seg T) -> VCT) : forceSegs l k = k l := by
 induction l generalizing k with
 | nil => rfl
 | cons x r ih => cases x <;> simp [forceSegs, ih, forceSV_eq]
def forceEnt : Ent T -> (Ent T -> VCT) -> VCT
 | .B b t xs, k => forceSegs xs fun xs => k (.B b t xs)
 | .O x e l, k => k (.O x e l)
 | .F m, k => k (.F m)
 | .R m, k => k (.R m)
 | .X, k => k .X
theorem forceEnt_eq (x : Ent T) (k : Ent T -> VCT) : forceEnt x k = k x := by cases x <;> simp [forceEnt, forceSegs_eq]
def forceH : List (Ent T) -> (List (Ent T) -> VCT) -> VCT
 | [], k => k []
 | x :: r, k => forceEnt x fun x => forceH r fun r' => k (x :: r')
theorem forceH_eq (l : List (Ent T)) (k : List (Ent T) -> VCT) : forceH l k = k l := by
 induction l generalizing k with
 | nil => rfl
 | cons x r ih => simp [forceH, ih, forceEnt_eq]
def forceF (d : Option Tmp) (S : St T) (k : St T -> VCT) : VCT := match d with
 | some d => forceP S.fr.t d fun t => k { fr := { length := S.fr.length, t := t }, H := S.H }
 | none => k S
theorem forceF_eq (d : Option Tmp) (S : St T) (k : St T -> VCT) : forceF d S k = k S := by cases d <;> simp [forceF, forceP_eq]
def forceM (still : Bool) (S : St T) (k : St T -> VCT) : VCT := cond still (k S) (forceH S.H fun H => k { fr := S.fr, H := H })
theorem forceM_eq (b : Bool) (S : St T) (k : St T -> VCT) : forceM b S k = k S := by cases b <;> simp [forceM, forceH_eq]
def forceSt (S : St T) (k : St T -> VCT) : VCT := forceFm S.fr.t fun t => forceH S.H fun H => k { fr := { length := S.fr.length, t := t }, H := H }
theorem forceSt_eq (S : St T) (k : St T -> VCT) : forceSt S k = k S := by simp [forceSt, forceFm_eq, forceH_eq]
def guardSlot (ops : List Oper) (o : Oper) : Option Tmp := match o.guard with
 | none => none
 | some (j, _) => (ops[j]?).bind (·.dst)

def guardx (ops : List Oper) (o : Oper) (S : St T) (run : St T -> VCT) (skip : St T -> VCT) : VCT :=
 match o.guard with
 | none => run S
 | some (j, want) => match (ops[j]?).bind (·.dst) with
   | some d => match S.get d with
     | some (.v (.bool t)) =>
       let yes := S.set (some d) (.v (.bool true))
       let no := S.set (some d) (.v (.bool false))
       if want then .br t (run yes) (skip (no.set o.dst .un)) else .br t (skip (yes.set o.dst .un)) (run no)
     | some .un => skip (S.set o.dst .un)
     | _ => .ff "a guard of which nothing is known"
   | none => .ff "a guard"

def opsx (C : Ctx T) (sp : Nat -> Option (PT T)) (ops : List Oper) : List Oper -> St T -> (St T -> VCT) -> (SV T -> St T -> VCT) -> VCT
 | [], S, K, _ => K S
 | o :: r, S, K, pan => guardx ops o S (fun S => forceF (guardSlot ops o) S fun S => opx C sp o S (fun S' => forceF o.dst S' fun S' => forceM (isStill o.op) S' fun S' => opsx C sp ops r S' K pan) pan) (fun S => forceF o.dst S fun S => opsx C sp ops r S K pan)
/-! ### Regions that draw their order
An operation is SOFT if it leaves memory alone and nobody that does not wait for it looks at what it gives: soft ones are run as early as may be. Of the others whichever may come next is tried; behind each the soft ones that may still be outstanding must give what they gave. -/
def bitOf (i : Nat) : Nat := Nat.shiftLeft 1 i
def hasBit (m i : Nat) : Bool := Nat.testBit m i
def afterMask (o : Oper) : Nat := o.after.toList.foldl (fun m e => cond (Region.binds .any e) (Nat.lor m (bitOf e.on)) m) 0
def looks (ops : List Oper) (o : Oper) : List Tmp := o.looksAt ops.toArray
def softAll (ops : List Oper) (d j : Nat) : List Oper -> Nat -> Bool
 | [], _ => true
 | o :: r, i => cond (Nat.beq i j) (!(looks ops o).contains d) ((!(looks ops o).contains d || hasBit (afterMask o) j) && (match o.dst with | some d' => !(Nat.beq d d') | none => true)) && softAll ops d j r (i + 1)
def isSoft (ops : List Oper) (j : Nat) (o : Oper) : Bool := isStill o.op && (match o.dst with | some d => softAll ops d j ops 0 | none => false)
structure OpI where
 i : Nat
 o : Oper
 am : Nat
 soft : Bool
def infoL (ops : List Oper) : List Oper -> Nat -> List OpI
 | [], _ => []
 | o :: r, i => { i := i, o := o, am := afterMask o, soft := isSoft ops i o } :: infoL ops r (i + 1)
def OpI.ready (x : OpI) (m : Nat) : Bool := cond (hasBit m x.i) false (Nat.beq (Nat.land x.am m) x.am)
def firstSoft : List OpI -> Nat -> Option OpI
 | [], _ => none
 | x :: r, m => cond (x.soft && x.ready m) (some x) (firstSoft r m)
def hards : List OpI -> Nat -> List OpI
 | [], _ => []
 | x :: r, m => cond (x.ready m && !x.soft) (x :: hards r m) (hards r m)
def unionAft : List OpI -> Nat -> Nat
 | [], _ => 0
 | x :: r, m => cond (hasBit m x.i) (Nat.lor x.am (unionAft r m)) (unionAft r m)
def closure (I : List OpI) : Nat -> Nat -> Nat
 | 0, m => m
 | n + 1, m => cond (Nat.beq (Nat.lor m (unionAft I m)) m) m (closure I n (Nat.lor m (unionAft I m)))
def loose : List OpI -> Nat -> Nat -> List OpI
 | [], _, _ => []
 | x :: r, m, must => cond (x.soft && hasBit m x.i && !hasBit must x.i) (x :: loose r m must) (loose r m must)
def checkx (C : Ctx T) : List OpI -> St T -> VCT -> VCT
 | [], _, k => k
 | x :: r, S, k => match x.o.guard, x.o.dst with
   | none, some d => match S.get d with
     | some z => stx C x.o S fun y => .fact (y.toV = z.toV) (checkx C r S k)
     | none => .ff "an order of which nothing is known"
   | _, _ => .ff "an order, under a guard"
def St.forget (S : St T) (l : List OpI) : St T := { fr := forgetL (l.filterMap fun x => x.o.dst) S.fr, H := S.H }
where forgetL : List Tmp -> Fr T -> Fr T
 | [], l => l
 | d :: r, l => forgetL r (l.set d none)
def hardAll (run : OpI -> VCT) : List OpI -> VCT
 | [] => .leaf True
 | [x] => run x
 | x :: r => .and (run x) (hardAll run r)
def expl (C : Ctx T) (sp : Nat -> Option (PT T)) (ops : List Oper) (I : List OpI) (K : St T -> VCT) (pan : SV T -> St T -> VCT) : Nat -> Nat -> Nat -> St T -> VCT
 | 0, _, _, _ => .ff "orders"
 | f + 1, m, must, S => match firstSoft I m with
   | some x => guardx ops x.o S (fun S => forceF (guardSlot ops x.o) S fun S => stx C x.o S fun y => forceF x.o.dst (S.set x.o.dst y) fun S => expl C sp ops I K pan f (Nat.lor m (bitOf x.i)) must S)
       (fun S => forceF x.o.dst S fun S => expl C sp ops I K pan f (Nat.lor m (bitOf x.i)) must S)
   | none => match hards I m with
     | [] => K S
     | l => hardAll (fun x =>
         let m' := Nat.lor m (bitOf x.i)
         let must' := Nat.lor must (closure I ops.length (bitOf x.i))
         let lo := loose I m must'
         guardx ops x.o S (fun S => forceF (guardSlot ops x.o) S fun S => opx C sp x.o S (fun S' => forceF x.o.dst S' fun S' => forceM (isStill x.o.op) S' fun S' => checkx C lo S' (expl C sp ops I K pan f m' must' S')) (fun y S' => pan y (S'.forget lo)))
           (fun S => forceF x.o.dst S fun S => checkx C lo S (expl C sp ops I K pan f m' must' S))) l

def noSel (ops : List Oper) : Bool := ops.all fun o => match o.op with | .select _ _ => false | _ => true
def regx (C : Ctx T) (sp : Nat -> Option (PT T)) (ops : List Oper) (draw : Bool) (S : St T) (K : St T -> VCT) (pan : SV T -> St T -> VCT) : VCT :=
 if draw then cond (noSel ops) (expl C sp ops (infoL ops ops 0) K pan (2 * ops.length + 1) 0 0 S) (.ff "select")
 else opsx C sp ops ops S K pan

def lexR (ops : List Oper) : Bool := true
def lexC : Code -> Bool
 | .region _ ops draw => !draw || lexR ops.toList
 | .seq a b => lexC a && lexC b
 | .cond _ a b => lexC a && lexC b
 | .block _ b => lexC b
 | .loop b => lexC b
 | .scope b => lexC b
 | _ => true
def lexF (fn : Func) : Bool := match fn.body with
 | some c => lexC c
 | none => true

/-! What is claimed at a loop's head, or at a place where ways meet. -/
inductive Ghost where
 /-- a slot that holds the nil slice: an empty row of one's own -/
 | own (d : Nat) (e : TypeId)
 /-- the same of a cell of a block -/
 | ownC (h o : Nat) (e : TypeId)
 /-- a slice value of which something is known -/
 | view (d : Nat) (e : TypeId)
structure Inv (T : Tys) : Type 1 where
 pre : List Ghost := []
 X : Type
 phi : X -> Prop
 fr : X -> List (Nat × SV T)
 H : X -> List (Nat × Ent T)
 mu : X -> Nat
 /-- a round that ends so is followed by one round more, which is the last -/
 alt : St T -> Bool := fun _ => false
 /-- where ways meet: entries that are left behind -/
 gone : List Nat := []
abbrev Ann (T : Tys) := Nat -> St T -> Option (Inv T)

def written : Code -> List Tmp
 | .region _ ops _ => ops.toList.filterMap (·.dst)
 | .seq a b => written a ++ written b
 | .cond _ a b => written a ++ written b
 | .block _ b => written b
 | .loop b => written b
 | .scope b => written b
 | _ => []
def firstRegion : Code -> Nat
 | .region i _ _ => i
 | .seq a _ => firstRegion a
 | .block _ b => firstRegion b
 | .loop b => 1000 + firstRegion b
 | .scope b => firstRegion b
 | .label l => 2000 + l
 | _ => 9999
def forgetAll : List Tmp -> Fr T -> Fr T
 | [], l => l
 | d :: r, l => forgetAll r (l.set d none)
def putFr : List (Nat × SV T) -> Fr T -> Fr T
 | [], l => l
 | (d, x) :: r, l => putFr r (l.set d (some x))
def putH : List (Nat × Ent T) -> List (Ent T) -> List (Ent T)
 | [], l => l
 | (d, x) :: r, l => putH r (l.set d x)
def Inv.at (I : Inv T) (ws : List Tmp) (S : St T) (x : I.X) : St T := { fr := putFr (I.fr x) (forgetAll ws S.fr), H := putH (I.H x) S.H }

def ghostK : Ghost -> St T -> (St T -> VCT) -> VCT
 | .own d e, S, k => match S.get d with
   | some (.v (.slice none 0 0)) => k ((S.push (.O (.slice none 0 0) e [])).set (some d) (.o S.H.length e (.slice none 0 0) 0))
   | _ => k S
 | .ownC h o e, S, k => match S.ent h with
   | .B b ty segs => match findC segs o with
     | some (.v (.slice none 0 0)) => match setC segs o (.o S.H.length e (.slice none 0 0) 0) with
       | some segs' => k ((S.setEnt h (.B b ty segs')).push (.O (.slice none 0 0) e []))
       | none => k S
     | _ => k S
   | _ => k S
 | .view d e, S, k => match S.get d, relOf S.H with
   | some (.w x n), some rel => .ex (List (T.El e)) fun l => .fact (isRo rel e x l) (.asm (n = l.length) (k (S.set (some d) (.ro e x l))))
   | some (.v (.slice none 0 0)), _ => k (S.set (some d) (.ro e (.slice none 0 0) []))
   | _, _ => k S
def ghosts : List Ghost -> St T -> (St T -> VCT) -> VCT
 | [], S, k => k S
 | g :: r, S, k => ghostK g S fun S => ghosts r S k

mutual
def mSV : SV T -> SV T -> VCT -> VCT
 | .un, .un, k => k
 | .v x, .v y, k => match x, y with
   | .int i a, .int j b => if i = j then .fact (a = b) k else .ff "match: kinds"
   | .bool a, .bool b => .fact (a = b) k
   | x, y => .fact (x = y) k
 | .p h b o, .p h' b' o', k => if h = h' then .fact (b = b' /\ o = o') k else .ff "match: another entry"
 | .s h b e base lo len cap, .s h' b' e' base' lo' len' cap', k => if h = h' /\ e = e' then .fact (b = b' /\ base = base' /\ lo = lo' /\ len = len' /\ cap = cap') k else .ff "match: another entry"
 | .o h e x n, .o h' e' x' n', k => if h = h' /\ e = e' then .fact (x = x' /\ n = n') k else .ff "match: another entry"
 | .ov h e x lo hi v, .ov h' e' x' lo' hi' v', k => if h = h' /\ e = e' then .fact (x = x' /\ lo = lo' /\ hi = hi' /\ v = v') k else .ff "match: another entry"
 | .o h e x n, .ov h' e' x' lo' hi' v', k => if h = h' /\ e = e' then .fact (x = x' /\ 0 = lo' /\ n = hi' /\ x = v') k else .ff "match: another entry"
 | .w x n, .w x' n', k => .fact (x = x' /\ n = n') k
 | .s _ b e base lo len cap, .w x' n', k => .fact (.slice (some ⟨b, base + lo * szE T e, none⟩) len cap = x' /\ len = n') k
 | .o _ _ x n, .w x' n', k => .fact (x = x' /\ n = n') k
 | .ro _ x l, .w x' n', k => .fact (x = x' /\ l.length = n') k
 | .v x, .w x' n', k => .fact (x = .slice none 0 0 /\ x = x' /\ n' = 0) k
 | .v x, .ro e' x' l', k => .fact (x = .slice none 0 0 /\ x = x' /\ l' = []) k
 | .ro e x l, .ro e' x' l', k => if h : e' = e then .fact (x = x' /\ l = h ▸ l') k else .ff "match: another type"
 | .i t x, .i t' y, k => if t = t' then mSV x y k else .ff "match: another type"
 | .a xs, .a ys, k => mSegs xs ys k
 | .t xs, .t ys, k => mSVL xs ys k
 | .f fn a b, .f fn' a' b', k => if fn = fn' then mSVL a a' (mSVL b b' k) else .ff "match: another function"
 | _, _, _ => .ff "match: values of two makes"
def mSVL : List (SV T) -> List (SV T) -> VCT -> VCT
 | [], [], k => k
 | x :: xs, y :: ys, k => mSV x y (mSVL xs ys k)
 | _, _, _ => .ff "match: lists"
def mSegs : List (Seg T) -> List (Seg T) -> VCT -> VCT
 | [], [], k => k
 | .c x :: xs, .c y :: ys, k => mSV x y (mSegs xs ys k)
 | .r e n l :: xs, .r e' n' l' :: ys, k => if h : e' = e then .fact (n = n' /\ l = h ▸ l') (mSegs xs ys k) else .ff "match: another type"
 | _, _, _ => .ff "match: pieces"
end
def relLe (m' m : Rel T) : Prop := ∀ e x l, m' e x l -> m e x l
theorem relLe.refl (m : Rel T) : relLe m m := fun _ _ _ h => h
theorem relLe.trans {a b c : Rel T} (h : relLe a b) (k : relLe b c) : relLe a c := fun e x l hx => k e x l (h e x l hx)
theorem relLe.add (m : Rel T) (e : TypeId) (x : Value) (l : List (T.El e)) : relLe m (relAdd m e x l) := fun _ _ _ h => .inl h
theorem relLe.add1 (m : Rel T) (e : TypeId) (x : Value) (l : List (T.El e)) : relLe m (relAdd1 m e x l) := fun _ _ _ h => .inl h
def mEnt : Ent T -> Ent T -> VCT -> VCT
 | _, .X, k => k
 | .B b t xs, .B b' t' ys, k => if t = t' then .fact (b = b') (mSegs xs ys k) else .ff "match: another type"
 | .O x e l, .O x' e' l', k => if h : e' = e then .fact (x = x' /\ l = h ▸ l') k else .ff "match: another type"
 | .F m, .F m', k => .fact (m = m') k
 | .R m, .R m', k => .fact (relLe m' m) k
 | _, _, _ => .ff "match: entries of two makes"
def mFr (S : St T) : List (Nat × SV T) -> VCT -> VCT
 | [], k => k
 | (d, y) :: r, k => match S.get d with
   | some x => mSV x y (mFr S r k)
   | none => .ff "match: a slot of which nothing is known"
def mH : List (Ent T) -> List (Ent T) -> VCT -> VCT
 | _, [], k => k
 | x :: xs, y :: ys, k => mEnt x y (mH xs ys k)
 | _, _, _ => .ff "match: entries"
def mSt (I : Inv T) (S S0 : St T) (x : I.X) (k : VCT) : VCT := mFr S (I.fr x) (mH S.H (putH (I.H x) S0.H) k)

def St.setB (S : St T) (x : Operand) (t : Bool) : St T := match x with
 | .tmp d => S.set (some d) (.v (.bool t))
 | _ => S

def St.absorb (S : St T) (n : Nat) : St T := { S with H := Vg.absorb n S.H }
def St.absorbK (S : St T) (n : Nat) (k : St T -> VCT) : VCT := cond (Nat.ble (n + 1) S.H.length) (updRK (S.H.drop n) (S.H.take n) fun H => k { fr := S.fr, H := H }) (k S)
theorem absorbK_eq (S : St T) (n : Nat) (k : St T -> VCT) : S.absorbK n k = k (S.absorb n) := by
 unfold St.absorbK St.absorb Vg.absorb
 by_cases h : n < S.H.length
 . rw [Nat.ble_eq_true_of_le (show n + 1 <= S.H.length from h), if_pos h]
   simp only [cond, updRK_eq]
 . have hb : Nat.ble (n + 1) S.H.length = false := by
     cases hb : Nat.ble (n + 1) S.H.length with
     | false => rfl
     | true => exact absurd (Nat.le_of_ble_eq_true hb) h
   rw [hb, if_neg h]
   rfl
def again (I : Inv T) (S : St T) (x : I.X) (S' : St T) : VCT := S'.absorbK S.H.length fun S' => .ex I.X fun x' => .fact (I.phi x' /\ I.mu x' < I.mu x) (mSt I S' S x' (.leaf True))
def goneK : List Nat -> St T -> (St T -> VCT) -> VCT
 | [], S, k => k S
 | g :: r, S, k => match S.H.getD g .X with
   | .O x e l => updRK [.O x e l] (S.H.set g .X) fun H => goneK r { fr := S.fr, H := updR (fun rel => relAdd1 rel e x l) H } k
   | e => updRK [e] (S.H.set g .X) fun H => goneK r { fr := S.fr, H := H } k
def meets (I : Inv T) (S : St T) (S' : St T) : VCT := S'.absorbK S.H.length fun S' => goneK I.gone S' fun S' => .ex I.X fun x => .fact (I.phi x) (mSt I S' S x (.leaf True))

def codexB (C : Ctx T) (sp : Nat -> Option (PT T)) (ann : Ann T) (rec : Code -> St T -> (Ex T -> St T -> VCT) -> VCT) : Code -> St T -> (Ex T -> St T -> VCT) -> VCT
 | .skip, S, K => K .normal S
 | .region _ ops draw, S, K => regx C sp ops.toList draw S (K .normal) (fun x S' => K (.panic x) S')
 | .seq a b, S, K => match ann (5000 + firstRegion b) S with
   | none => codexB C sp ann rec a S fun e S' => match e with
     | .normal => codexB C sp ann rec b S' K
     | e => K e S'
   | some I => .and (codexB C sp ann rec a S fun e S' => match e with
       | .normal => meets I S S'
       | e => K e S')
     (.all I.X fun x => .asm (I.phi x) (forceSt (I.at (written a) S x) fun S1 => codexB C sp ann rec b S1 K))
 | .cond c a b, S, K => match S.ev c with
   | some (.v (.bool t)) => .br t (codexB C sp ann rec a (S.setB c true) K) (codexB C sp ann rec b (S.setB c false) K)
   | _ => .ff "a test of which nothing is known"
 | .block id b, S, K => codexB C sp ann rec b S fun e S' => match e with
   | .exit i => if i = id then K .normal S' else K (.exit i) S'
   | e => K e S'
 | .loop b, S, K => match ann (firstRegion b) S with
   | some I => ghosts I.pre S fun S => .ex I.X fun x0 => .fact (I.phi x0) (mSt I S S x0 (.all I.X fun x => .asm (I.phi x)
       (forceSt (I.at (written b) S x) fun S1 => codexB C sp ann rec b S1 fun e S' => match e with
         | .normal => cond (I.alt S') (forceSt S' fun S2 => codexB C sp ann rec b S2 fun e S' => match e with
           | .normal => .ff "one round more"
           | e => K e S') (again I S x S')
         | e => K e S')))
   | none => (Nat.rec (fun _ => .ff "too many rounds") (fun _ go S => codexB C sp ann rec b S fun e S' => match e with
         | .normal => forceSt S' go
         | e => K e S') C.fuel : St T -> VCT) S
 | .scope b, S, K => match ann (3000 + firstRegion b) S with
   | none => codexB C sp ann rec b S fun e S' => match e with
     | .goto _ => .ff "a jump"
     | e => K e S'
   | some I => match findLabel b 0 with
     | some rest => .and (codexB C sp ann rec b S fun e S' => match e with
         | .goto l => if l = 0 then meets I S S' else .ff "a jump elsewhere"
         | e => K e S')
       (.all I.X fun x => .asm (I.phi x) (forceSt (I.at (written b) S x) fun S1 => rec rest S1 fun e S' => match e with
         | .goto l => if l = 0 then again I S x S' else .ff "a jump elsewhere"
         | e => K e S'))
     | none => .ff "no label"
 | .exit i, S, K => K (.exit i) S
 | .goto l, S, K => K (.goto l) S
 | .label _, S, K => K .normal S
 | .ret, S, K => K .ret S
 | _, _, _ => .ff "a form of code that the generator lacks"
def codexD (C : Ctx T) (sp : Nat -> Option (PT T)) (ann : Ann T) : Nat -> Code -> St T -> (Ex T -> St T -> VCT) -> VCT
 | 0 => codexB C sp ann fun _ _ _ => .ff "too deep"
 | d + 1 => codexB C sp ann (codexD C sp ann d)
def codex (C : Ctx T) (sp : Nat -> Option (PT T)) (ann : Ann T) (c : Code) (S : St T) (K : Ex T -> St T -> VCT) : VCT := codexD C sp ann 2 c S K

def resK (C : Ctx T) (S : St T) : List ResultVar -> (List (SV T) -> VCT) -> VCT
 | [], k => k []
 | .tmp t :: r, k => match S.get t with
   | some x => resK C S r fun l => k (x :: l)
   | none => .ff "results of which nothing is known"
 | .cell p ty :: r, k => match S.get p with
   | some x => ptrLoad C ty S x fun y => resK C S r fun l => k (y :: l)
   | none => .ff "results of which nothing is known"
def tupleOf : List (SV T) -> SV T
 | [x] => x
 | l => .t l

def putArgs : List (SV T) -> Nat -> Fr T -> Fr T
 | [], _, f => f
 | x :: r, i, f => putArgs r (i + 1) (f.set i (some x))
def start (fn : Func) (args : List (SV T)) (H : List (Ent T)) : St T :=
 { fr := putArgs args 0 { length := fn.ntmps, t := Fm.mk T (Nat.log2 fn.ntmps + 1) }, H := H }

def fnx (C : Ctx T) (sp : Nat -> Option (PT T)) (ann : Ann T) (fn : Func) (args : List (SV T)) (H : List (Ent T))
   (K : SV T -> List (Ent T) -> VCT) (Kp : SV T -> List (Ent T) -> VCT) : VCT :=
 match fn.body with
 | some c => if args.length <= fn.ntmps then forceSt (start fn args H) fun S0 => codex C sp ann c S0 fun e S' => match e with
   | .normal | .ret => resK C S' fn.results.toList fun l => K (tupleOf l) S'.H
   | .panic x => Kp x S'.H
   | _ => .ff "an end that is none"
   else .ff "more arguments than slots"
 | none => .ff "no body"

end Go.Vg
/-
 The generator's soundness, part 1: symbolic memory against the model's memory.
-/
set_option linter.unusedVariables false
namespace Go.Vg
variable {T : Tys}

/-! ### Cells of pieces -/
theorem cellsL_append (a b : List (Seg T)) : Seg.cellsL (a ++ b) = Seg.cellsL a ++ Seg.cellsL b := by
 induction a with
 | nil => simp [Seg.cellsL]
 | cons x r ih => simp [Seg.cellsL, ih]

def roOK (I : Nat -> Prop) (w : World) (e : TypeId) (x : Value) (l : List (T.El e)) : Prop :=
 ∃ A cap, x = .slice A l.length cap /\ l.length <= cap /\ cap <= maxLen /\ (0 < l.length -> ∃ ad, A = some ad /\ ¬ I ad.block /\ ad.block < w.heap.size /\
   ∀ j u, (l.flatMap (T.enc e).enc)[j]? = some u -> w.cell? (ad.add j) = some u)

def ovOK (sz : Nat) (x : Value) (lo hi : Nat) (v : Value) : Prop := ∃ A n cap, x = .slice A n cap /\ (v = sliceVal x lo hi sz \/ (lo = hi /\ lo = cap /\ 0 < lo /\ ∃ A', v = .slice A' 0 0))
theorem ovOK.slice {sz : Nat} {x : Value} {lo hi : Nat} {v : Value} (h : ovOK sz x lo hi v) : ∃ A, v = .slice A (hi - lo) (capVal x - lo) := by
 obtain ⟨A, n, cap, rfl, rfl | ⟨h1, h2, _, A', rfl⟩⟩ := h
 . exact ⟨_, rfl⟩
 . subst h1 h2; exact ⟨A', by simp [capVal]⟩
mutual
def SV.valid (I : Nat -> Prop) (w : World) : SV T -> Prop
 | .v x => x.oneCell' = true
 | .o _ _ x n => ∃ A cap, x = .slice A n cap
 | .ov _ e x lo hi v => ovOK (szE T e) x lo hi v
 | .w x n => ∃ A cap, x = .slice A n cap
 | .ro e x l => roOK I w e x l
 | .rq e x l _ _ => roOK I w e x l
 | .i _ x => x.valid I w
 | .a xs => Seg.validL I w xs
 | .t xs => SV.validL I w xs
 | .f _ a b => SV.validL I w a /\ SV.validL I w b
 | _ => True
def SV.validL (I : Nat -> Prop) (w : World) : List (SV T) -> Prop
 | [] => True
 | x :: r => x.valid I w /\ SV.validL I w r
def Seg.valid (I : Nat -> Prop) (w : World) : Seg T -> Prop
 | .c x => x.valid I w /\ x.toV.oneCell' = true
 | .r _ n l => l.length = n
def Seg.validL (I : Nat -> Prop) (w : World) : List (Seg T) -> Prop
 | [] => True
 | x :: r => x.valid I w /\ Seg.validL I w r
end

theorem validL_append (I : Nat -> Prop) (w : World) (a b : List (Seg T)) : Seg.validL I w (a ++ b) ↔ Seg.validL I w a /\ Seg.validL I w b := by
 induction a with
 | nil => simp [Seg.validL]
 | cons x r ih => simp [Seg.validL, ih, and_assoc]

theorem enc_flat_length (e : TypeId) (l : List (T.El e)) : (l.flatMap (T.enc e).enc).length = l.length * szE T e := by
 induction l with
 | nil => simp
 | cons x r ih => simp [ih, (T.enc e).len, szE, Nat.add_mul, Nat.add_comm]

theorem cellsL_length {I : Nat -> Prop} {w : World} (a : List (Seg T)) (h : Seg.validL I w a) : (Seg.cellsL a).length = segsLen a := by
 induction a with
 | nil => simp [Seg.cellsL, segsLen]
 | cons x r ih =>
   obtain ⟨hx, hr⟩ := h
   cases x with
   | c x => simp [Seg.cellsL, segsLen, Seg.cells, ih hr]; omega
   | r e n l =>
     have hl : l.length = n := hx
     simp only [Seg.cellsL, segsLen, Seg.cells, List.length_append, ih hr, enc_flat_length, hl]

theorem cellsL_one {I : Nat -> Prop} {w : World} (a : List (Seg T)) (h : Seg.validL I w a) : ∀ v ∈ Seg.cellsL a, v.oneCell' = true := by
 induction a with
 | nil => simp [Seg.cellsL]
 | cons x r ih =>
   obtain ⟨hx, hr⟩ := h
   intro v hv
   simp only [Seg.cellsL, List.mem_append] at hv
   rcases hv with hv | hv
   . cases x with
     | c x => simp only [Seg.cells, List.mem_singleton] at hv; subst hv; exact hx.2
     | r e n l =>
       simp only [Seg.cells, List.mem_flatMap] at hv
       obtain ⟨y, _, hy⟩ := hv
       exact (T.enc e).one y v hy
   . exact ih hr v hv

theorem findC_ok {I : Nat -> Prop} {w : World} : ∀ (a : List (Seg T)) (o : Nat) (x : SV T), Seg.validL I w a -> findC a o = some x ->
   (Seg.cellsL a)[o]? = some x.toV /\ x.valid I w /\ x.toV.oneCell' = true := by
 intro a
 induction a with
 | nil => intro o x _ h; cases o <;> simp [findC] at h
 | cons y r ih =>
   intro o x hv h
   obtain ⟨hy, hr⟩ := hv
   cases y with
   | c y =>
     cases o with
     | zero =>
       simp only [findC, Option.some.injEq] at h; subst h
       exact ⟨by simp [Seg.cellsL, Seg.cells], hy.1, hy.2⟩
     | succ n =>
       simp only [findC] at h
       obtain ⟨h1, h2⟩ := ih n x hr h
       exact ⟨by simpa [Seg.cellsL, Seg.cells] using h1, h2⟩
   | r e k l =>
     simp only [findC] at h
     split at h
     . cases h
     . rename_i hn
       obtain ⟨h1, h2⟩ := ih _ x hr h
       have hl : (l.flatMap (T.enc e).enc).length = k * szE T e := by rw [enc_flat_length]; have : l.length = k := hy; rw [this]
       refine ⟨?_, h2⟩
       simp only [Seg.cellsL, Seg.cells]
       rw [List.getElem?_append_right (by rw [hl]; omega), hl]
       exact h1

theorem setC_ok {I : Nat -> Prop} {w : World} : ∀ (a : List (Seg T)) (o : Nat) (y : SV T) (b : List (Seg T)), Seg.validL I w a -> y.valid I w -> y.toV.oneCell' = true -> setC a o y = some b ->
   Seg.cellsL b = (Seg.cellsL a).set o y.toV /\ o < (Seg.cellsL a).length /\ Seg.validL I w b := by
 intro a
 induction a with
 | nil => intro o y b _ _ _ h; cases o <;> simp [setC] at h
 | cons z r ih =>
   intro o y b hv hy h1 h
   obtain ⟨hz, hr⟩ := hv
   cases z with
   | c z =>
     cases o with
     | zero =>
       simp only [setC, Option.some.injEq] at h; subst h
       exact ⟨by simp [Seg.cellsL, Seg.cells], by simp [Seg.cellsL, Seg.cells], ⟨hy, h1⟩, hr⟩
     | succ n =>
       simp only [setC, Option.map_eq_some_iff] at h
       obtain ⟨b', hb, rfl⟩ := h
       obtain ⟨e1, e2, e3⟩ := ih n y b' hr hy h1 hb
       refine ⟨by simp [Seg.cellsL, Seg.cells, e1], by simp [Seg.cellsL, Seg.cells]; omega, hz, e3⟩
   | r e k l =>
     simp only [setC] at h
     split at h
     . cases h
     . rename_i hn
       simp only [Option.map_eq_some_iff] at h
       obtain ⟨b', hb, rfl⟩ := h
       obtain ⟨e1, e2, e3⟩ := ih _ y b' hr hy h1 hb
       have hl : (l.flatMap (T.enc e).enc).length = k * szE T e := by rw [enc_flat_length]; have : l.length = k := hz; rw [this]
       refine ⟨?_, ?_, hz, e3⟩
       . simp only [Seg.cellsL, Seg.cells, e1]
         rw [List.set_append_right _ _ (by rw [hl]; omega), hl]
       . simp only [Seg.cellsL, Seg.cells, List.length_append, hl]; omega

theorem findR_ok {I : Nat -> Prop} {w : World} : ∀ (a : List (Seg T)) (o : Nat) (e : TypeId) (n : Nat) (l : List (T.El e)), Seg.validL I w a -> findR a o = some (.mk e n l) ->
   ∃ p q, a = p ++ .r e n l :: q /\ segsLen p = o := by
 intro a
 induction a with
 | nil => intro o e n l _ h; cases o <;> simp [findR] at h
 | cons y r ih =>
   intro o e n l hv h
   obtain ⟨hy, hr⟩ := hv
   cases y with
   | c y =>
     cases o with
     | zero => simp [findR] at h
     | succ m =>
       simp only [findR] at h
       obtain ⟨p, q, rfl, hp⟩ := ih m e n l hr h
       exact ⟨.c y :: p, q, rfl, by simp [segsLen, hp]; omega⟩
   | r e' k l' =>
     simp only [findR] at h
     split at h
     . rename_i h0
       simp only [Option.some.injEq, Row.mk.injEq] at h
       obtain ⟨rfl, rfl, hl⟩ := h
       cases hl
       exact ⟨[], r, rfl, by simp [segsLen, h0]⟩
     . split at h
       . cases h
       . rename_i hn
         obtain ⟨p, q, rfl, hp⟩ := ih _ e n l hr h
         exact ⟨.r e' k l' :: p, q, rfl, by simp [segsLen, hp]; omega⟩

theorem setR_ok {I : Nat -> Prop} {w : World} (e' : TypeId) (n' : Nat) (l' : List (T.El e')) : ∀ (a : List (Seg T)) (o : Nat) (b : List (Seg T)) (e : TypeId) (n : Nat) (l : List (T.El e)),
   Seg.validL I w a -> findR a o = some (.mk e n l) -> setR e' n' l' a o = some b -> ∃ p q, a = p ++ .r e n l :: q /\ b = p ++ .r e' n' l' :: q /\ segsLen p = o /\ e = e' := by
 intro a
 induction a with
 | nil => intro o b e n l _ h; cases o <;> simp [findR] at h
 | cons y r ih =>
   intro o b e n l hv h hs
   obtain ⟨hy, hr⟩ := hv
   cases y with
   | c y =>
     cases o with
     | zero => simp [findR] at h
     | succ m =>
       simp only [findR] at h
       simp only [setR, Option.map_eq_some_iff] at hs
       obtain ⟨b', hb, rfl⟩ := hs
       obtain ⟨p, q, rfl, rfl, hp, he⟩ := ih m b' e n l hr h hb
       exact ⟨.c y :: p, q, rfl, rfl, by simp [segsLen, hp]; omega, he⟩
   | r e2 k l2 =>
     simp only [findR] at h
     simp only [setR] at hs
     split at h
     . rename_i h0
       rw [if_pos h0] at hs
       simp only [Option.some.injEq, Row.mk.injEq] at h
       obtain ⟨rfl, rfl, hl⟩ := h
       cases hl
       split at hs
       . rename_i he
         simp only [Option.some.injEq] at hs
         subst hs
         exact ⟨[], r, rfl, rfl, by simp [segsLen, h0], he⟩
       . cases hs
     . rename_i h0
       rw [if_neg h0] at hs
       split at h
       . cases h
       . rename_i hn
         rw [if_neg hn] at hs
         simp only [Option.map_eq_some_iff] at hs
         obtain ⟨b', hb, rfl⟩ := hs
         obtain ⟨p, q, rfl, rfl, hp, he⟩ := ih _ b' e n l hr h hb
         exact ⟨.r e2 k l2 :: p, q, rfl, rfl, by simp [segsLen, hp]; omega, he⟩

theorem splitS_ok : ∀ (a : List (Seg T)) (n : Nat) (x y : List (Seg T)), splitS a n = some (x, y) -> a = x ++ y /\ segsLen x = n := by
 intro a
 induction a with
 | nil =>
   intro n x y h
   cases n with
   | zero => simp only [splitS, Option.some.injEq, Prod.mk.injEq] at h; obtain ⟨rfl, rfl⟩ := h; exact ⟨rfl, rfl⟩
   | succ n => simp [splitS] at h
 | cons z r ih =>
   intro n x y h
   cases n with
   | zero =>
     have : splitS (z :: r) 0 = some ([], z :: r) := by cases z <;> rfl
     rw [this] at h
     simp only [Option.some.injEq, Prod.mk.injEq] at h; obtain ⟨rfl, rfl⟩ := h; exact ⟨rfl, rfl⟩
   | succ n =>
     cases z with
     | c z =>
       simp only [splitS, Option.map_eq_some_iff, Prod.mk.injEq, Prod.exists] at h
       obtain ⟨a, b, hs, rfl, rfl⟩ := h
       obtain ⟨rfl, hl⟩ := ih n a b hs
       exact ⟨rfl, by simp [segsLen, hl]; omega⟩
     | r e k l =>
       simp only [splitS] at h
       split at h
       . cases h
       . rename_i hn
         simp only [Option.map_eq_some_iff, Prod.mk.injEq, Prod.exists] at h
         obtain ⟨a, b, hs, rfl, rfl⟩ := h
         obtain ⟨rfl, hl⟩ := ih _ a b hs
         exact ⟨rfl, by simp [segsLen, hl]; omega⟩

theorem subS_ok (xs : List (Seg T)) (off n : Nat) (m : List (Seg T)) (h : subS xs off n = some m) : ∃ p q, xs = p ++ m ++ q /\ segsLen p = off /\ segsLen m = n := by
 unfold subS at h
 split at h
 . rename_i p r h1
   split at h
   . rename_i m' q h2
     simp only [Option.some.injEq] at h; subst h
     obtain ⟨rfl, h3⟩ := splitS_ok _ _ _ _ h1
     obtain ⟨rfl, h4⟩ := splitS_ok _ _ _ _ h2
     exact ⟨p, q, by simp, h3, h4⟩
   . cases h
 . cases h
theorem putS_ok (xs : List (Seg T)) (off n : Nat) (ys zs : List (Seg T)) (h : putS xs off n ys = some zs) : ∃ p m q, xs = p ++ m ++ q /\ zs = p ++ ys ++ q /\ segsLen p = off /\ segsLen m = n := by
 unfold putS at h
 split at h
 . rename_i p r h1
   split at h
   . rename_i m' q h2
     simp only [Option.some.injEq] at h; subst h
     obtain ⟨rfl, h3⟩ := splitS_ok _ _ _ _ h1
     obtain ⟨rfl, h4⟩ := splitS_ok _ _ _ _ h2
     exact ⟨p, m', q, by simp, rfl, h3, h4⟩
   . cases h
 . cases h

/-! ### Entries, heaps, steps -/
def Ent.has : Ent T -> Nat -> Prop
 | .B b _ _, k => b = k
 | .O x _ _, k => x.ownBlock = some k
 | .F m, k => m k ≠ none
 | .R _, _ => False
 | .X, _ => False
def Owns (H : List (Ent T)) (k : Nat) : Prop := ∃ (i : Nat) (e : Ent T), H[i]? = some e /\ e.has k
def Ent.ok (I : Nat -> Prop) (w : World) : Ent T -> Prop
 | .B b ty segs => w.heap[b]? = some (.cells (Seg.cellsL segs).toArray ty (0, 0)) /\ Seg.validL I w segs
 | .O x e l => w.ownsRow 0 e (szE T e) x l.length (l.flatMap (T.enc e).enc)
 | .F m => ∀ k, m k ≠ none -> w.heap[k]? = m k
 | .R rel => ∀ e x l, rel e x l -> roOK I w e x l
 | .X => True

structure HOK (C : Ctx T) (H : List (Ent T)) (w : World) : Prop where
 ents : ∀ (i : Nat) (e : Ent T), H[i]? = some e -> e.ok (Owns H) w
 apart : ∀ (i j : Nat) (e e' : Ent T) (k : Nat), H[i]? = some e -> H[j]? = some e' -> e.has k -> e'.has k -> i = j
 lt : ∀ k, Owns H k -> k < w.heap.size
 glob : ∀ g v, (g, v) ∈ C.glob -> w.cell? ⟨g, 0, none⟩ = some v /\ v.oneCell' = true /\ ¬ Owns H g /\ g < w.heap.size

structure Stp (I I' : Nat -> Prop) (w w' : World) : Prop where
 os : w'.os = w.os
 tape : w'.tape = w.tape
 output : w'.output = w.output
 size : w.heap.size <= w'.heap.size
 block : ∀ k, k < w.heap.size -> ¬ I k -> w'.heap[k]? = w.heap[k]?
 own : ∀ k, I' k -> I k \/ w.heap.size <= k

theorem Stp.refl (I : Nat -> Prop) (w : World) : Stp I I w w := ⟨rfl, rfl, rfl, Nat.le_refl _, fun _ _ _ => rfl, fun _ h => .inl h⟩
theorem Stp.trans {I I' I'' : Nat -> Prop} {a b c : World} (h : Stp I I' a b) (k : Stp I' I'' b c) : Stp I I'' a c :=
 ⟨k.os.trans h.os, k.tape.trans h.tape, k.output.trans h.output, Nat.le_trans h.size k.size,
  fun i hi hn => (k.block i (Nat.lt_of_lt_of_le hi h.size) (fun h' => (h.own i h').elim hn (fun h2 => by omega))).trans (h.block i hi hn),
  fun i hi => (k.own i hi).elim (fun h' => h.own i h') (fun h2 => .inr (Nat.le_trans h.size h2))⟩

theorem roOK.step {I I' : Nat -> Prop} {w w' : World} {e : TypeId} {x : Value} {l : List (T.El e)} (h : roOK I w e x l) (s : Stp I I' w w') : roOK I' w' e x l := by
 obtain ⟨A, cap, hx, hc, hm, h⟩ := h
 refine ⟨A, cap, hx, hc, hm, fun hl => ?_⟩
 obtain ⟨ad, hA, hn, hlt, hcell⟩ := h hl
 refine ⟨ad, hA, fun h' => (s.own _ h').elim hn (fun h2 => by omega), Nat.lt_of_lt_of_le hlt s.size, fun j u hu => ?_⟩
 have hb : (ad.add j).block = ad.block := by unfold Addr.add; split <;> rfl
 rw [World.cell?_of_block (w := w) (a := ad.add j) (by rw [hb]; exact s.block _ hlt hn)]
 exact hcell j u hu

mutual
theorem SV.valid_step {I I' : Nat -> Prop} {w w' : World} (s : Stp I I' w w') : ∀ x : SV T, x.valid I w -> x.valid I' w'
 | .un, _ => trivial
 | .v x, h => h
 | .p _ _ _, _ => trivial
 | .s _ _ _ _ _ _ _, _ => trivial
 | .o _ _ _ _, h => h
 | .ov _ _ _ _ _ _, h => h
 | .w _ _, h => h
 | .q _ _ _ _ _, _ => trivial
 | .ro e x l, h => roOK.step h s
 | .rq e x l _ _, h => roOK.step h s
 | .i _ x, h => SV.valid_step s x h
 | .a xs, h => Seg.validL_step s xs h
 | .t xs, h => SV.validL_step s xs h
 | .f _ a b, h => ⟨SV.validL_step s a h.1, SV.validL_step s b h.2⟩
theorem SV.validL_step {I I' : Nat -> Prop} {w w' : World} (s : Stp I I' w w') : ∀ x : List (SV T), SV.validL I w x -> SV.validL I' w' x
 | [], _ => trivial
 | x :: r, h => ⟨SV.valid_step s x h.1, SV.validL_step s r h.2⟩
theorem Seg.valid_step {I I' : Nat -> Prop} {w w' : World} (s : Stp I I' w w') : ∀ x : Seg T, x.valid I w -> x.valid I' w'
 | .c x, h => ⟨SV.valid_step s x h.1, h.2⟩
 | .r _ _ _, h => h
theorem Seg.validL_step {I I' : Nat -> Prop} {w w' : World} (s : Stp I I' w w') : ∀ x : List (Seg T), Seg.validL I w x -> Seg.validL I' w' x
 | [], _ => trivial
 | x :: r, h => ⟨Seg.valid_step s x h.1, Seg.validL_step s r h.2⟩
end

theorem Ent.ok_step {I I' : Nat -> Prop} {w w' : World} (s : Stp I I' w w') (e : Ent T) (h : e.ok I w) (hb : ∀ k, e.has k -> w'.heap[k]? = w.heap[k]?) : e.ok I' w' := by
 cases e with
 | B b ty segs => exact ⟨(hb b rfl).trans h.1, Seg.validL_step s _ h.2⟩
 | O x e l =>
   obtain ⟨h1, h2⟩ := h
   refine ⟨h1, ?_⟩
   rcases h2 with h2 | ⟨g, cap, cur, hv, hg, hh, r⟩
   . exact .inl h2
   . exact .inr ⟨g, cap, cur, hv, hg, (hb g (by subst hv; rfl)).trans hh, r⟩
 | F m => exact fun k hk => (hb k hk).trans (h k hk)
 | R rel => exact fun e x l hr => (h e x l hr).step s
 | X => trivial

theorem HOK.push {C : Ctx T} {H : List (Ent T)} {w w' : World} (h : HOK C H w) (e : Ent T) (hos : w'.os = w.os) (htape : w'.tape = w.tape) (hout : w'.output = w.output)
   (hsize : w.heap.size <= w'.heap.size) (hblock : ∀ k, k < w.heap.size -> w'.heap[k]? = w.heap[k]?) (hid : ∀ k, e.has k -> w.heap.size <= k /\ k < w'.heap.size)
   (hok : ∀ I : Nat -> Prop, Stp (Owns H) I w w' -> e.ok I w') : HOK C (H ++ [e]) w' /\ Stp (Owns H) (Owns (H ++ [e])) w w' := by
 have hown : ∀ k, Owns (H ++ [e]) k -> Owns H k \/ e.has k := by
   rintro k ⟨i, e', hi, he⟩
   rw [List.getElem?_append] at hi
   split at hi
   . exact .inl ⟨i, e', hi, he⟩
   . rename_i hlt
     have : i - H.length = 0 := by
       rcases Nat.eq_zero_or_pos (i - H.length) with h0 | h0
       . exact h0
       . rw [List.getElem?_eq_none (by simp; omega)] at hi; cases hi
     rw [this] at hi
     simp at hi; subst hi
     exact .inr he
 have s : Stp (Owns H) (Owns (H ++ [e])) w w' := ⟨hos, htape, hout, hsize, fun k hk _ => hblock k hk, fun k hk => (hown k hk).imp id (fun he => (hid k he).1)⟩
 refine ⟨⟨?_, ?_, ?_, ?_⟩, s⟩
 . intro i e' hi
   rw [List.getElem?_append] at hi
   split at hi
   . exact Ent.ok_step s e' (h.ents i e' hi) (fun k hk => hblock k (h.lt k ⟨i, e', hi, hk⟩))
   . rename_i hlt
     have : i - H.length = 0 := by
       rcases Nat.eq_zero_or_pos (i - H.length) with h0 | h0
       . exact h0
       . rw [List.getElem?_eq_none (by simp; omega)] at hi; cases hi
     rw [this] at hi
     simp at hi; subst hi
     exact hok _ s
 . intro i j e1 e2 k hi hj h1 h2
   rw [List.getElem?_append] at hi hj
   split at hi <;> split at hj
   . exact h.apart i j e1 e2 k hi hj h1 h2
   . rename_i a b
     have h3 := h.lt k ⟨i, e1, hi, h1⟩
     have : e2 = e := by
       have : j - H.length = 0 := by
         rcases Nat.eq_zero_or_pos (j - H.length) with h0 | h0
         . exact h0
         . rw [List.getElem?_eq_none (by simp; omega)] at hj; cases hj
       rw [this] at hj; simp at hj; exact hj.symm
     subst this
     have := (hid k h2).1
     omega
   . rename_i a b
     have h3 := h.lt k ⟨j, e2, hj, h2⟩
     have : e1 = e := by
       have : i - H.length = 0 := by
         rcases Nat.eq_zero_or_pos (i - H.length) with h0 | h0
         . exact h0
         . rw [List.getElem?_eq_none (by simp; omega)] at hi; cases hi
       rw [this] at hi; simp at hi; exact hi.symm
     subst this
     have := (hid k h1).1
     omega
   . have a1 : i - H.length = 0 := by
       rcases Nat.eq_zero_or_pos (i - H.length) with h0 | h0
       . exact h0
       . rw [List.getElem?_eq_none (by simp; omega)] at hi; cases hi
     have a2 : j - H.length = 0 := by
       rcases Nat.eq_zero_or_pos (j - H.length) with h0 | h0
       . exact h0
       . rw [List.getElem?_eq_none (by simp; omega)] at hj; cases hj
     omega
 . intro k hk
   rcases hown k hk with h1 | h1
   . exact Nat.lt_of_lt_of_le (h.lt k h1) hsize
   . exact (hid k h1).2
 . intro g v hg
   obtain ⟨h1, h2, h3, h4⟩ := h.glob g v hg
   refine ⟨by rw [World.cell?_of_block (w := w) (hblock g h4)]; exact h1, h2, fun ho => ?_, Nat.lt_of_lt_of_le h4 hsize⟩
   rcases hown g ho with h5 | h5
   . exact h3 h5
   . have := (hid g h5).1; omega

theorem HOK.put {C : Ctx T} {H : List (Ent T)} {w w' : World} (h : HOK C H w) (n : Nat) (e0 e : Ent T) (hn : H[n]? = some e0) (hos : w'.os = w.os) (htape : w'.tape = w.tape) (hout : w'.output = w.output)
   (hsize : w.heap.size <= w'.heap.size) (hblock : ∀ k, k < w.heap.size -> ¬ e0.has k -> w'.heap[k]? = w.heap[k]?)
   (hid : ∀ k, e.has k -> (e0.has k \/ w.heap.size <= k) /\ k < w'.heap.size)
   (hok : ∀ I : Nat -> Prop, Stp (Owns H) I w w' -> e.ok I w') : HOK C (H.set n e) w' /\ Stp (Owns H) (Owns (H.set n e)) w w' := by
 have hlen : n < H.length := by
   rcases Nat.lt_or_ge n H.length with h0 | h0
   . exact h0
   . rw [List.getElem?_eq_none h0] at hn; cases hn
 have hget : ∀ (i : Nat) (e' : Ent T), (H.set n e)[i]? = some e' -> (i = n /\ e' = e) \/ (i ≠ n /\ H[i]? = some e') := by
   intro i e' hi
   rw [List.getElem?_set] at hi
   split at hi
   . rename_i h0; subst h0
     simp at hi
     exact .inl ⟨rfl, hi.symm⟩
   . rename_i h0
     exact .inr ⟨fun h => h0 h.symm, hi⟩
 have hown : ∀ k, Owns (H.set n e) k -> Owns H k \/ w.heap.size <= k := by
   rintro k ⟨i, e', hi, he⟩
   rcases hget i e' hi with ⟨rfl, rfl⟩ | ⟨_, hi⟩
   . rcases (hid k he).1 with h1 | h1
     . exact .inl ⟨i, e0, hn, h1⟩
     . exact .inr h1
   . exact .inl ⟨i, e', hi, he⟩
 have hkeep : ∀ (i : Nat) (e' : Ent T) (k : Nat), i ≠ n -> H[i]? = some e' -> e'.has k -> w'.heap[k]? = w.heap[k]? := by
   intro i e' k hne hi he
   exact hblock k (h.lt k ⟨i, e', hi, he⟩) (fun h0 => hne (h.apart i n e' e0 k hi hn he h0))
 have s : Stp (Owns H) (Owns (H.set n e)) w w' := ⟨hos, htape, hout, hsize, fun k hk hno => hblock k hk (fun h0 => hno ⟨n, e0, hn, h0⟩), hown⟩
 refine ⟨⟨?_, ?_, ?_, ?_⟩, s⟩
 . intro i e' hi
   rcases hget i e' hi with ⟨rfl, rfl⟩ | ⟨hne, hi⟩
   . exact hok _ s
   . exact Ent.ok_step s e' (h.ents i e' hi) (fun k hk => hkeep i e' k hne hi hk)
 . intro i j e1 e2 k hi hj h1 h2
   rcases hget i e1 hi with ⟨hi1, hi2⟩ | ⟨ha, hi'⟩ <;> rcases hget j e2 hj with ⟨hj1, hj2⟩ | ⟨hb, hj'⟩
   . rw [hi1, hj1]
   . subst hi1 hi2
     rcases (hid k h1).1 with h3 | h3
     . exact absurd (h.apart j i e2 e0 k hj' hn h2 h3) hb
     . have := h.lt k ⟨j, e2, hj', h2⟩; omega
   . subst hj1 hj2
     rcases (hid k h2).1 with h3 | h3
     . exact absurd (h.apart i j e1 e0 k hi' hn h1 h3) ha
     . have := h.lt k ⟨i, e1, hi', h1⟩; omega
   . exact h.apart i j e1 e2 k hi' hj' h1 h2
 . rintro k ⟨i, e', hi, he⟩
   rcases hget i e' hi with ⟨rfl, rfl⟩ | ⟨_, hi⟩
   . exact (hid k he).2
   . exact Nat.lt_of_lt_of_le (h.lt k ⟨i, e', hi, he⟩) hsize
 . intro g v hg
   obtain ⟨h1, h2, h3, h4⟩ := h.glob g v hg
   refine ⟨by rw [World.cell?_of_block (w := w) (hblock g h4 (fun h0 => h3 ⟨n, e0, hn, h0⟩))]; exact h1, h2, fun ho => ?_, Nat.lt_of_lt_of_le h4 hsize⟩
   rcases hown g ho with h5 | h5
   . exact h3 h5
   . omega
end Go.Vg
/-
 The generator's soundness, part 2: reading.
-/
set_option linter.unusedVariables false
namespace Go.Vg
variable {T : Tys}

structure FrOK (S : St T) (a : Act) (I : Nat -> Prop) (w : World) : Prop where
 size : a.tmps.size = S.fr.length
 get : ∀ i x, S.get i = some x -> a.tmps[i]? = some x.toV /\ x.valid I w

theorem FrOK.step {S : St T} {a : Act} {I I' : Nat -> Prop} {w w' : World} (h : FrOK S a I w) (s : Stp I I' w w') : FrOK S a I' w' :=
 ⟨h.size, fun i x hx => ⟨(h.get i x hx).1, SV.valid_step s x (h.get i x hx).2⟩⟩

theorem ev_ok {S : St T} {a : Act} {I : Nat -> Prop} {w : World} (h : FrOK S a I w) {x : Operand} {y : SV T} (hx : S.ev x = some y) : a.eval x = y.toV /\ y.valid I w := by
 cases x with
 | tmp t =>
   obtain ⟨h1, h2⟩ := h.get t y hx
   refine ⟨?_, h2⟩
   show a.tmps.getD t undef = _
   rw [Array.getD_eq_getD_getElem?, h1]; rfl
 | const v =>
   simp only [St.ev] at hx
   split at hx
   . rename_i hv
     simp only [Option.some.injEq] at hx; subst hx
     exact ⟨rfl, hv⟩
   . cases hx
 | global g => simp only [St.ev, Option.some.injEq] at hx; subst hx; exact ⟨rfl, rfl⟩
 | func f => simp only [St.ev, Option.some.injEq] at hx; subst hx; exact ⟨rfl, rfl⟩

theorem St.get_set {S : St T} {d i : Nat} {x y : SV T} (h : (S.set (some d) x).get i = some y) : (d = i /\ x = y /\ d < S.fr.length) \/ (d ≠ i /\ S.get i = some y) := by
 rcases Fr.get_set h with ⟨h1, h2, h3⟩ | ⟨h1, h2⟩
 . exact .inl ⟨h1, Option.some.inj h2, h3⟩
 . exact .inr ⟨h1, h2⟩

theorem frOK_set {S : St T} {a : Act} {I : Nat -> Prop} {w : World} (h : FrOK S a I w) (d : Option Tmp) {x : SV T} (hx : x.valid I w) : FrOK (S.set d x) (a.put d x.toV) I w := by
 cases d with
 | none => exact h
 | some d =>
   refine ⟨by simp [Act.put, St.set, Fr.set, h.size], fun i y hy => ?_⟩
   simp only [Act.put, Array.getElem?_setIfInBounds]
   rcases St.get_set hy with ⟨rfl, rfl, h1⟩ | ⟨h0, hy⟩
   . exact ⟨by rw [if_pos rfl, if_pos (by rw [h.size]; exact h1)], hx⟩
   . rw [if_neg h0]
     exact h.get i y hy

theorem frOK_H {S : St T} {a : Act} {I : Nat -> Prop} {w : World} (h : FrOK S a I w) (H : List (Ent T)) : FrOK { S with H := H } a I w := ⟨h.size, h.get⟩

theorem prun_run {α : Type} {P : Program} : ∀ (s : Sem α) (a : α) (w : World), prun P s = some a -> s.run P w = .ok a w := by
 intro s
 induction s with
 | pure a => intro b w h; simp only [prun, Option.some.injEq] at h; subst h; rfl
 | program k ih => intro b w h; simp only [prun] at h; simp only [Sem.run]; exact ih P b w h
 | mark m k ih => intro b w h; simp only [prun] at h; simp only [Sem.run]; exact ih b w h
 | load | store | new | shape | freeze | frozen | getObj | setObj | choose | sys | halt => intro b w h; simp [prun] at h

theorem sizeT_run {P : Program} {t n : Nat} (h : sizeT P t = some n) (w : World) : (sizeOf t).run P w = .ok n w := by
 unfold sizeT at h
 simp only [Option.map_eq_some_iff] at h
 obtain ⟨i, hi, rfl⟩ := h
 simp [sizeOf, typeInfo, hi]
theorem isAggT_run {P : Program} {t : Nat} {b : Bool} (h : isAggT P t = some b) (w : World) : (isAgg t).run P w = .ok b w := by
 unfold isAggT at h
 unfold isAgg
 split at h
 all_goals first | (cases h; done) | skip
 all_goals (rename_i d hd; simp only [Option.some.injEq] at h; subst h; simp only [Sem.run_bind, run_underlying hd, Result.andThen_ok])
 all_goals first | rfl | skip

theorem add_block (b o j : Nat) : (⟨b, o, none⟩ : Addr).add j = ⟨b, o + j, none⟩ := by
 unfold Addr.add; split <;> simp_all

theorem cell_blk {w : World} {b : Nat} {cs : List Value} {t : TypeId} (h : w.heap[b]? = some (.cells cs.toArray t (0, 0))) (o : Nat) : w.cell? ⟨b, o, none⟩ = cs[o]? := by
 simp [World.cell?, h]

theorem loadVar_agg {P : Program} {w : World} {b o t n : Nat} {cs : List Value} {ty : TypeId} (hb : w.heap[b]? = some (.cells cs.toArray ty (0, 0))) (ha : isAggT P t = some true) (hn : sizeT P t = some n)
   (hl : o + n <= cs.length) : (loadVar t ⟨b, o, none⟩).run P w = .ok (.agg ((cs.drop o).take n).toArray) w := by
 unfold loadVar
 simp only [Sem.run_bind, isAggT_run ha, Result.andThen_ok, sizeT_run hn, if_true]
 have hlen : ((cs.drop o).take n).length = n := by simp; omega
 have := run_loadCells_list (P := P) w ⟨b, o, none⟩ ((cs.drop o).take n) (fun j v hj => by
   rw [add_block, cell_blk hb]
   rw [List.getElem?_take] at hj
   split at hj
   . rw [List.getElem?_drop] at hj; exact hj
   . cases hj)
 rw [hlen] at this
 rw [this]; rfl
theorem loadVar_one {P : Program} {w : World} {a : Addr} {t : Nat} {v : Value} (hc : w.cell? a = some v) (ha : isAggT P t = some false) : (loadVar t a).run P w = .ok v w := by
 unfold loadVar
 simp only [Sem.run_bind, isAggT_run ha, Result.andThen_ok]
 simp [load, Sem.run, hc]

theorem lift_val {P : Program} {s : Sem Value} {w : World} {v : Value} (h : s.run P w = .ok v w) : (do pure (.value (<- s)) : Sem Next).run P w = .ok (.value v) w := by
 simp only [Sem.run_bind, h, Result.andThen_ok]; rfl

theorem readS_ok {P : Program} {I : Nat -> Prop} {w : World} {b o t : Nat} {segs : List (Seg T)} {ty : TypeId} {y : SV T} (hb : w.heap[b]? = some (.cells (Seg.cellsL segs).toArray ty (0, 0))) (hv : Seg.validL I w segs)
   (h : readS P t segs o = some y) : (loadVar t ⟨b, o, none⟩).run P w = .ok y.toV w /\ y.valid I w := by
 unfold readS at h
 split at h
 . rename_i n ha hn
   simp only [Option.map_eq_some_iff] at h
   obtain ⟨m, hm, rfl⟩ := h
   obtain ⟨p, q, rfl, hp, hmn⟩ := subS_ok _ _ _ _ hm
   rw [validL_append, validL_append] at hv
   have h1 := cellsL_length p hv.1.1
   have h2 := cellsL_length m hv.1.2
   refine ⟨?_, hv.1.2⟩
   rw [loadVar_agg hb ha hn (by simp only [cellsL_append, List.length_append]; omega)]
   simp only [SV.toV, cellsL_append]
   congr 3
   rw [List.append_assoc, List.drop_append_of_le_length (by omega), <- hp, <- h1, List.drop_length, List.nil_append, List.take_append_of_le_length (by omega), <- hmn, <- h2, List.take_length]
 . rename_i ha
   obtain ⟨h1, h2, _⟩ := findC_ok _ _ _ hv h
   exact ⟨loadVar_one (by rw [cell_blk hb]; exact h1) ha, h2⟩
 . cases h

theorem cellS_ok {I : Nat -> Prop} {w : World} (v : Value) (h : v.oneCell' = true) : (cellS (T := T) v).toV = v /\ (cellS (T := T) v).valid I w := by
 cases v <;> first | exact ⟨rfl, h⟩ | exact ⟨rfl, _, _, rfl⟩
theorem validL_cs {I : Nat -> Prop} {w : World} : ∀ (l : List Value), (∀ v ∈ l, v.oneCell' = true) -> Seg.validL (T := T) I w (l.map fun y => .c (cellS y))
 | [], _ => trivial
 | x :: r, h => ⟨⟨(cellS_ok x (h x (by simp))).2, by rw [(cellS_ok (T := T) (I := I) (w := w) x (h x (by simp))).1]; exact h x (by simp)⟩, validL_cs r (fun v hv => h v (by simp [hv]))⟩
theorem cellS_toV (v : Value) : (cellS (T := T) v).toV = v := by cases v <;> rfl
theorem cellsL_cs : ∀ (l : List Value), Seg.cellsL (T := T) (l.map fun y => .c (cellS y)) = l
 | [] => rfl
 | x :: r => by simp [Seg.cellsL, Seg.cells, cellS_toV]; exact cellsL_cs r
theorem readE_ok {P : Program} {I : Nat -> Prop} {w : World} {t fld : Nat} {ad : Addr} {cells : List Value} {y : SV T} (h1 : ∀ v ∈ cells, v.oneCell' = true)
   (hc : ∀ j u, cells[j]? = some u -> w.cell? (ad.add j) = some u) (had : ∀ j k : Nat, (ad.add j).add k = ad.add (j + k)) (h : readE P t cells fld = some y) :
   (loadVar t (ad.add fld)).run P w = .ok y.toV w /\ y.valid I w := by
 unfold readE at h
 split at h
 . rename_i n ha hn
   split at h
   . rename_i hle
     simp only [Option.some.injEq] at h; subst h
     have hlen : ((cells.drop fld).take n).length = n := by simp; omega
     refine ⟨?_, validL_cs _ (fun v hv => h1 v (List.mem_of_mem_drop (List.mem_of_mem_take hv)))⟩
     unfold loadVar
     simp only [Sem.run_bind, isAggT_run ha, Result.andThen_ok, sizeT_run hn, if_true]
     have := run_loadCells_list (P := P) w (ad.add fld) ((cells.drop fld).take n) (fun j v hj => by
       rw [had]
       rw [List.getElem?_take] at hj
       split at hj
       . rw [List.getElem?_drop] at hj; exact hc _ _ hj
       . cases hj)
     rw [hlen] at this
     rw [this]
     simp only [SV.toV, cellsL_cs]; rfl
   . cases h
 . rename_i ha
   simp only [Option.map_eq_some_iff] at h
   obtain ⟨v, hv, rfl⟩ := h
   obtain ⟨h2, h3⟩ := cellS_ok (T := T) (I := I) (w := w) v (h1 v (List.mem_of_getElem? hv))
   exact ⟨by rw [h2]; exact loadVar_one (hc _ _ hv) ha, h3⟩
 . cases h

theorem addr_add_add (a : Addr) (j k : Nat) : (a.add j).add k = a.add (j + k) := by
 unfold Addr.add
 by_cases hj : j = 0 <;> by_cases hk : k = 0 <;> simp [hj, hk, Nat.add_assoc]

theorem flat_get (e : TypeId) : ∀ (l : List (T.El e)) (i j : Nat) (y : T.El e), l[i]? = some y -> j < szE T e -> (l.flatMap (T.enc e).enc)[i * szE T e + j]? = ((T.enc e).enc y)[j]? := by
 intro l
 induction l with
 | nil => intro i j y h; simp at h
 | cons x r ih =>
   intro i j y h hj
   have hx : ((T.enc e).enc x).length = szE T e := (T.enc e).len x
   cases i with
   | zero =>
     simp at h; subst h
     simp only [List.flatMap_cons, Nat.zero_mul, Nat.zero_add]
     rw [List.getElem?_append_left (by omega)]
   | succ i =>
     simp only [List.getElem?_cons_succ] at h
     simp only [List.flatMap_cons]
     rw [List.getElem?_append_right (by rw [hx, Nat.succ_mul]; omega), hx, <- ih i j y h hj]
     congr 1
     rw [Nat.succ_mul]; omega

theorem elem_cells {w : World} {e : TypeId} {l : List (T.El e)} {ad : Addr} (hc : ∀ j u, (l.flatMap (T.enc e).enc)[j]? = some u -> w.cell? (ad.add j) = some u) {i : Nat} {y : T.El e} (hy : l[i]? = some y) :
   ∀ j u, ((T.enc e).enc y)[j]? = some u -> w.cell? ((ad.add (i * szE T e)).add j) = some u := by
 intro j u hu
 have hj : j < szE T e := by
   have := (T.enc e).len y
   rcases Nat.lt_or_ge j (szE T e) with h0 | h0
   . exact h0
   . rw [List.getElem?_eq_none (by unfold szE at h0; omega)] at hu; cases hu
 rw [addr_add_add]
 exact hc _ _ (by rw [flat_get e l i j y hy hj]; exact hu)

theorem elemK_den {cc : Bool} {P : Program} {t e : Nat} {l : List (T.El e)} {i fld : Nat} {k : SV T -> VCT} (h : (elemK cc P t e l i fld k).den) : ∃ y, l[i]? = some y /\ i < l.length /\ (match readE P t ((T.enc e).enc y) fld with
   | some z => k z
   | none => .ff "no such part of an element").den := by
 cases cc with
 | false => obtain ⟨h1, h2⟩ := h; exact ⟨l[i], List.getElem?_eq_getElem h1, h1, h2 _ (List.getElem?_eq_getElem h1)⟩
 | true =>
   simp only [elemK, cond] at h
   split at h
   . rename_i y hy
     refine ⟨y, hy, ?_, h⟩
     rcases Nat.lt_or_ge i l.length with h0 | h0
     . exact h0
     . rw [List.getElem?_eq_none h0] at hy; cases hy
   . exact h.elim
theorem elemK_ok {cc : Bool} {P : Program} {I : Nat -> Prop} {w : World} {t e : Nat} {l : List (T.El e)} {i fld : Nat} {k : SV T -> VCT} {ad : Addr} (hc : ∀ j u, (l.flatMap (T.enc e).enc)[j]? = some u -> w.cell? (ad.add j) = some u)
   (h : (elemK cc P t e l i fld k).den) : ∃ y, (k y).den /\ y.valid I w /\ (loadVar t (ad.add (i * szE T e + fld))).run P w = .ok y.toV w := by
 obtain ⟨y, hy, hi, h⟩ := elemK_den h
 split at h
 . rename_i z hz
   obtain ⟨h1, h2⟩ := readE_ok (I := I) ((T.enc e).one y) (elem_cells hc hy) (addr_add_add _) hz
   rw [addr_add_add] at h1
   exact ⟨z, h, h2, h1⟩
 . exact h.elim

theorem row_in_block {w : World} {b : Nat} {p q : List (Seg T)} {e : TypeId} {n : Nat} {l : List (T.El e)} {ty : TypeId} {I : Nat -> Prop} (hv : Seg.validL I w (p ++ .r e n l :: q))
   (hb : w.heap[b]? = some (.cells (Seg.cellsL (p ++ .r e n l :: q)).toArray ty (0, 0))) : ∀ j u, (l.flatMap (T.enc e).enc)[j]? = some u -> w.cell? ((⟨b, segsLen p, none⟩ : Addr).add j) = some u := by
 intro j u hu
 rw [validL_append] at hv
 have hp := cellsL_length p hv.1
 have hj : j < (l.flatMap (T.enc e).enc).length := by
   rcases Nat.lt_or_ge j (l.flatMap (T.enc e).enc).length with h0 | h0
   . exact h0
   . rw [List.getElem?_eq_none h0] at hu; cases hu
 rw [add_block, cell_blk hb, cellsL_append, List.getElem?_append_right (by omega)]
 simp only [Seg.cellsL, Seg.cells]
 rw [hp, Nat.add_sub_cancel_left, List.getElem?_append_left hj]
 exact hu

theorem ent_ok {C : Ctx T} {S : St T} {w : World} (hH : HOK C S.H w) (h : Nat) : (S.ent h).ok (Owns S.H) w := by
 unfold St.ent
 rw [List.getD_eq_getElem?_getD]
 cases he : S.H[h]? with
 | none => trivial
 | some e => exact hH.ents h e he
theorem ent_get {S : St T} {h : Nat} {e : Ent T} (he : S.ent h = e) (hx : e ≠ .X) : S.H[h]? = some e := by
 unfold St.ent at he
 rw [List.getD_eq_getElem?_getD] at he
 cases h0 : S.H[h]? with
 | none => rw [h0] at he; exact absurd he.symm hx
 | some e' => rw [h0] at he; simp at he; rw [he]

theorem own_cells {w : World} {e : TypeId} {x : Value} {l : List (T.El e)} (h : w.ownsRow 0 e (szE T e) x l.length (l.flatMap (T.enc e).enc)) (hl : 0 < l.length) :
   ∃ g cap, x = .slice (some ⟨g, 0, none⟩) l.length cap /\ l.length <= cap /\ cap <= maxLen /\ ∀ j u, (l.flatMap (T.enc e).enc)[j]? = some u -> w.cell? ((⟨g, 0, none⟩ : Addr).add j) = some u := by
 obtain ⟨h1, h2⟩ := h
 rcases h2 with ⟨_, h2⟩ | ⟨g, cap, cur, hv, _, hh, hn, hm, hs, ht⟩
 . omega
 . refine ⟨g, cap, hv, hn, hm, fun j u hu => ?_⟩
   rw [add_block]
   simp only [World.cell?, hh, Nat.zero_add]
   simp only [Option.isSome_none, Bool.false_eq_true, if_false]
   rw [<- ht, List.getElem?_take] at hu
   split at hu
   . simpa using hu
   . cases hu

theorem ptrLoad_ok {C : Ctx T} {t : TypeId} {S : St T} {x : SV T} {k : SV T -> VCT} {w : World} (hH : HOK C S.H w) (hx : x.valid (Owns S.H) w) (h : (ptrLoad C t S x k).den) :
   ∃ y, (k y).den /\ y.valid (Owns S.H) w /\ (Instr.loadAt t x.toV).run C.P w = .ok y.toV w := by
 have sure : ∀ (a : Addr) (s : Addr -> Sem Value), (Instr.sureAddr (.pointer (some a)) >>= s) = s a := fun a s => rfl
 unfold ptrLoad at h
 split at h
 . rename_i hh b o
   split at h
   . rename_i b' ty segs he
     have hok := ent_ok hH hh
     rw [he] at hok
     split at h
     . rename_i y hy
       obtain ⟨rfl, hk⟩ := h
       obtain ⟨h1, h2⟩ := readS_ok hok.1 hok.2 hy
       exact ⟨y, hk, h2, h1⟩
     . exact h.elim
   . exact h.elim
 . rename_i hh b base i sz fld
   split at h
   . rename_i b' ty segs he
     have hok := ent_ok hH hh
     rw [he] at hok
     split at h
     . rename_i e n l hr
       split at h
       . rename_i hsz
         obtain ⟨rfl, hk⟩ := h
         obtain ⟨p, q, rfl, hp⟩ := findR_ok _ _ _ _ _ hok.2 hr
         obtain ⟨y, h1, h2, h3⟩ := elemK_ok (I := Owns S.H) (row_in_block hok.2 hok.1) hk
         refine ⟨y, h1, h2, ?_⟩
         rw [add_block, hp] at h3
         simp only [SV.toV, Instr.loadAt, sure, Off.val, hsz]
         rw [Nat.add_assoc]
         exact h3
       . exact h.elim
     . exact h.elim
   . exact h.elim
 . rename_i hh e v i fld
   split at h
   . rename_i v' e' l he
     have hok := ent_ok hH hh
     rw [he] at hok
     split at h
     . rename_i hee
       subst hee
       obtain ⟨rfl, hk⟩ := h
       obtain ⟨g, cap, rfl, _, _, hc⟩ := own_cells hok (by obtain ⟨_, _, h8, _⟩ := elemK_den hk; omega)
       obtain ⟨y, h1, h2, h3⟩ := elemK_ok (I := Owns S.H) hc hk
       exact ⟨y, h1, h2, h3⟩
     . exact h.elim
   . exact h.elim
 . rename_i e v l i fld
   obtain ⟨A, cap, rfl, _, _, hro⟩ := hx
   obtain ⟨ad, rfl, _, _, hc⟩ := hro (by obtain ⟨_, _, h8, _⟩ := elemK_den h; omega)
   obtain ⟨y, h1, h2, h3⟩ := elemK_ok (I := Owns S.H) hc h
   exact ⟨y, h1, h2, h3⟩
 . rename_i g
   split at h
   . rename_i ha hn
     refine ⟨.a [], h, trivial, ?_⟩
     simp only [SV.toV, Instr.loadAt, sure]
     unfold loadVar
     simp only [Sem.run_bind, isAggT_run ha, Result.andThen_ok, sizeT_run hn, if_true]
     rfl
   . rename_i ha
     split at h
     . rename_i y hy
       have hm : (g, y) ∈ C.glob := by
         have := List.lookup_eq_some_iff.1 hy
         obtain ⟨l1, l2, h1, _⟩ := this
         rw [h1]; simp
       obtain ⟨h1, h2, _, _⟩ := hH.glob g y hm
       exact ⟨.v y, h, h2, loadVar_one h1 ha⟩
     . exact h.elim
   . exact h.elim
 . exact h.elim
end Go.Vg
/-
 The generator's soundness, part 3: the operations that leave memory alone.
-/
set_option linter.unusedVariables false
namespace Go.Vg
variable {T : Tys}

def Gives (C : Ctx T) (o : Oper) (S : St T) (a : Act) (w : World) (c : SV T -> VCT) : Prop :=
 ∃ y, (c y).den /\ y.valid (Owns S.H) w /\ (execOp a.eval o).run C.P w = .ok (.value y.toV) w

theorem plain_ev {S : St T} {a : Act} {I : Nat -> Prop} {w : World} (h : FrOK S a I w) {xs : List Operand} (hp : S.plain xs = true) : ∀ x ∈ xs, a.eval x = S.evV x := by
 intro x hx
 simp only [St.plain, List.all_eq_true] at hp
 have := hp x hx
 unfold isV at this
 unfold St.evV
 split at this
 . rename_i y hy
   exact (ev_ok h hy).1
 . cases this

theorem generic_ok {C : Ctx T} {o : Oper} {S : St T} {c : SV T -> VCT} {a : Act} {w : World} (hS : FrOK S a (Owns S.H) w) (hsel : ∀ cs b, o.op ≠ .select cs b)
   (h : (generic C o S c).den) : Gives C o S a w c := by
 unfold generic at h
 split at h
 . rename_i hp
   split at h
   . rename_i y hy
     split at h
     . rename_i hv
       refine ⟨.v y, h, hv, ?_⟩
       rw [execOp_congr o hsel (ρ' := S.evV) (fun x hx => plain_ev hS hp x (by simpa using hx))]
       exact prun_run _ _ w hy
     . exact h.elim
   . exact h.elim
 . exact h.elim

theorem arith_ok {cc : Bool} {k : IntKind} {n : Int} {c : SV T -> VCT} {I : Nat -> Prop} {w : World} (h : (arith cc k n c).den) : ∃ y, (c y).den /\ y.valid I w /\ y.toV = .int k (k.wrap n) := by
 unfold arith at h
 split at h
 . obtain ⟨⟨h1, h2⟩, h⟩ := factB_den h
   refine ⟨_, h, rfl, ?_⟩
   simp only [SV.toV, IntKind.wrap]
   congr 1
   simp only [IntKind.bits, IntKind.signed, Bool.true_and]
   split
   . rename_i h3; simp at h3; omega
   . rename_i h3; simp at h3; omega
 . exact ⟨_, h, rfl, rfl⟩

theorem binInt_ok {cc : Bool} {C : Ctx T} {op : BinOp} {xt : TypeId} {k : IntKind} {p q : Int} {c : SV T -> VCT} {I : Nat -> Prop} {w : World} (hs : op ≠ .shl /\ op ≠ .shr) (h : (binInt cc op k p q c).den) :
   ∃ y, (c y).den /\ y.valid I w /\ (binOp op xt (.int k p) (.int k q)).run C.P w = .ok y.toV w := by
 cases op with
 | add => obtain ⟨y, h1, h2, h3⟩ := arith_ok (I := I) (w := w) h; exact ⟨y, h1, h2, by rw [h3]; simp [binOp, Op.intArith]⟩
 | sub => obtain ⟨y, h1, h2, h3⟩ := arith_ok (I := I) (w := w) h; exact ⟨y, h1, h2, by rw [h3]; simp [binOp, Op.intArith]⟩
 | mul => obtain ⟨y, h1, h2, h3⟩ := arith_ok (I := I) (w := w) h; exact ⟨y, h1, h2, by rw [h3]; simp [binOp, Op.intArith]⟩
 | quo => obtain ⟨h0, h⟩ := h; exact ⟨_, h, rfl, by simp [binOp, Op.intDiv, h0, SV.toV]⟩
 | rem => obtain ⟨h0, h⟩ := h; exact ⟨_, h, rfl, by simp [binOp, Op.intDiv, h0, SV.toV]⟩
 | and => exact ⟨_, h, rfl, by simp [binOp, Op.intBits, SV.toV, bitI]⟩
 | or => exact ⟨_, h, rfl, by simp [binOp, Op.intBits, SV.toV, bitI]⟩
 | xor => exact ⟨_, h, rfl, by simp [binOp, Op.intBits, SV.toV, bitI]⟩
 | andNot => exact ⟨_, h, rfl, by simp [binOp, Op.intBits, SV.toV, bitI]⟩
 | eql => exact ⟨_, h, rfl, by simp [binOp, Op.intCmp, SV.toV]⟩
 | neq => exact ⟨_, h, rfl, by simp [binOp, Op.intCmp, SV.toV]⟩
 | lss => exact ⟨_, h, rfl, by simp [binOp, Op.intCmp, SV.toV]⟩
 | leq => exact ⟨_, h, rfl, by simp [binOp, Op.intCmp, SV.toV]⟩
 | gtr => exact ⟨_, h, rfl, by simp [binOp, Op.intCmp, SV.toV]⟩
 | geq => exact ⟨_, h, rfl, by simp [binOp, Op.intCmp, SV.toV]⟩
 | shl => exact absurd rfl hs.1
 | shr => exact absurd rfl hs.2

theorem eqGuard_plain {P : Program} {w : World} (op : BinOp) (t : TypeId) (x y : Operand) {u v : Value} (h : u = .nilIface -> v = .nilIface -> False) (h2 : ∀ cs ds, u = .agg cs -> v = .agg ds -> False) :
   (eqGuard op t x y u v).run P w = .ok () w := by
 have key : ∀ (A : Sem Unit) (B : Array Value -> Array Value -> Sem Unit), (match u, v with
     | .nilIface, .nilIface => A
     | .agg c, .agg d => B c d
     | _, _ => pure ()) = pure () := by
   intro A B
   cases u <;> cases v <;> first | rfl | exact (h rfl rfl).elim | exact (h2 _ _ rfl rfl).elim
 unfold eqGuard
 cases op <;> first | rfl | exact (congrArg (fun s : Sem Unit => s.run P w) (key _ (fun _ _ => _))).trans rfl

theorem equalIn_nil {P : Program} {t : TypeId} {u v : SV T} (h : nilFits P t u v = true) (w : World) (d : Nat) : (Op.equalIn (d + 1) t u.toV v.toV).run P w = .ok false w := by
 unfold nilFits at h
 split at h
 all_goals first | (cases h; done) | skip
 all_goals
   split at h
   . rename_i hd
     simp only [Op.equalIn, Sem.run_bind, run_underlying hd, Result.andThen_ok, SV.toV]
     rfl
   . cases h

theorem nilFits_ok {C : Ctx T} {t : TypeId} {u v : SV T} (h : nilFits C.P t u v = true) (w : World) (x y : Operand) (op : BinOp) :
   (eqGuard op t x y u.toV v.toV).run C.P w = .ok () w /\
     (binOp .eql t u.toV v.toV).run C.P w = .ok (.bool false) w /\ (binOp .neq t u.toV v.toV).run C.P w = .ok (.bool true) w := by
 have he : (Op.equal t u.toV v.toV).run C.P w = .ok false w := equalIn_nil h w 9999
 unfold nilFits at h
 split at h
 all_goals first | (cases h; done) | skip
 all_goals
   refine ⟨eqGuard_plain _ _ _ _ (fun h1 h2 => ?_) (fun _ _ h1 h2 => ?_), ?_, ?_⟩
   . first | (simp [SV.toV] at h1; done) | (simp [SV.toV] at h2; done)
   . first | (simp [SV.toV] at h1; done) | (simp [SV.toV] at h2; done)
   . simp only [SV.toV] at he ⊢
     simp only [binOp, Sem.run_bind, he, Result.andThen_ok, Sem.run_pure]
   . simp only [SV.toV] at he ⊢
     simp only [binOp, Sem.run_bind, he, Result.andThen_ok, Sem.run_pure]; rfl

theorem equalIn_same {P : Program} {xt t : TypeId} {a : Addr} (h : ptrEq P xt t = true) (w : World) (d : Nat) : (Op.equalIn (d + 2) xt (.iface t (.pointer (some a))) (.iface t (.pointer (some a)))).run P w = .ok true w := by
 unfold ptrEq at h
 split at h
 . rename_i ms i e h1 h2 h3
   simp only [Bool.and_eq_true] at h
   obtain ⟨hc, hs⟩ := h
   split at hs
   . rename_i n hn
     have hn0 : n ≠ 0 := by simpa using hs
     unfold Op.equalIn
     simp only [Sem.run_bind, run_underlying h1, Result.andThen_ok]
     rw [if_neg (by simp)]
     simp only [Sem.run_bind]
     have hi : (typeInfo t).run P w = .ok i w := by simp [typeInfo, h2]
     rw [hi]
     simp only [Result.andThen_ok, hc]
     simp only [Bool.not_true, Bool.false_eq_true, if_false]
     unfold Op.equalIn
     simp only [Sem.run_bind, run_underlying h3, Result.andThen_ok, sizeT_run hn]
     rw [if_pos hn0]
     simp [sameAddr]
   . cases hs
 . cases h
theorem ptrEq_ok {C : Ctx T} {xt t : TypeId} {a : Addr} (h : ptrEq C.P xt t = true) (w : World) (x y : Operand) (op : BinOp) :
   (eqGuard op xt x y (.iface t (.pointer (some a))) (.iface t (.pointer (some a)))).run C.P w = .ok () w /\
     (binOp .eql xt (.iface t (.pointer (some a))) (.iface t (.pointer (some a)))).run C.P w = .ok (.bool true) w /\ (binOp .neq xt (.iface t (.pointer (some a))) (.iface t (.pointer (some a)))).run C.P w = .ok (.bool false) w := by
 have he : (Op.equal xt (.iface t (.pointer (some a))) (.iface t (.pointer (some a)))).run C.P w = .ok true w := equalIn_same h w 9998
 refine ⟨eqGuard_plain _ _ _ _ (fun h1 h2 => by cases h1) (fun _ _ h1 h2 => by cases h1), ?_, ?_⟩
 . simp only [binOp, Sem.run_bind, he, Result.andThen_ok, Sem.run_pure]
 . simp only [binOp, Sem.run_bind, he, Result.andThen_ok, Sem.run_pure]; rfl

theorem isSl_ok {I : Nat -> Prop} {w : World} {u : SV T} (h : isSl u = true) (hv : u.valid I w) : ∃ A n c, u.toV = .slice A n c := by
 unfold isSl at h
 split at h
 . obtain ⟨A, cap, rfl⟩ := hv; exact ⟨_, _, _, rfl⟩
 . obtain ⟨A, h2⟩ := ovOK.slice hv; exact ⟨_, _, _, h2⟩
 . obtain ⟨A, cap, rfl⟩ := hv; exact ⟨_, _, _, rfl⟩
 . obtain ⟨A, cap, rfl, _⟩ := hv; exact ⟨_, _, _, rfl⟩
 . cases h
theorem nilSl_ok {C : Ctx T} {t : TypeId} {I : Nat -> Prop} {u v : SV T} {w : World} (h : (isSl u && isNilSl v && isSliceT C.P t) = true) (hv : u.valid I w) (x y : Operand) (op : BinOp) :
   (eqGuard op t x y u.toV v.toV).run C.P w = .ok () w /\
     (binOp .eql t u.toV v.toV).run C.P w = .ok (.bool (nilB u.toV)) w /\ (binOp .neq t u.toV v.toV).run C.P w = .ok (.bool (!nilB u.toV)) w := by
 simp only [Bool.and_eq_true] at h
 obtain ⟨⟨h1, h2⟩, h3⟩ := h
 obtain ⟨A, n, c, hu⟩ := isSl_ok h1 hv
 have hvv : v.toV = .slice none 0 0 := by
   unfold isNilSl at h2
   split at h2
   . rfl
   . cases h2
 obtain ⟨e, hd⟩ : ∃ e, C.P.underlying t = some (.slice e) := by
   unfold isSliceT at h3
   split at h3
   . exact ⟨_, by assumption⟩
   . cases h3
 have he : (Op.equal t u.toV v.toV).run C.P w = .ok (nilB u.toV) w := by
   rw [hu, hvv]
   have key : ∀ d : Nat, (Op.equalIn (d + 1) t (.slice A n c) (.slice none 0 0)).run C.P w = .ok (nilB (.slice A n c)) w := by
     intro d
     simp only [Op.equalIn, Sem.run_bind, run_underlying hd, Result.andThen_ok]
     cases A <;> rfl
   exact key 9999
 rw [hu, hvv] at he ⊢
 refine ⟨eqGuard_plain _ _ _ _ (fun h1 h2 => by cases h1) (fun _ _ h1 h2 => by cases h1), ?_, ?_⟩
 . simp only [binOp, Sem.run_bind, he, Result.andThen_ok, Sem.run_pure]
 . simp only [binOp, Sem.run_bind, he, Result.andThen_ok, Sem.run_pure]
theorem evL_ok {S : St T} {a : Act} {I : Nat -> Prop} {w : World} (hS : FrOK S a I w) : ∀ (xs : List Operand) (ys : List (SV T)), evL S xs = some ys -> xs.map a.eval = SV.toVL ys /\ SV.validL I w ys
 | [], ys, h => by simp only [evL, Option.some.injEq] at h; subst h; exact ⟨rfl, trivial⟩
 | x :: r, ys, h => by
   simp only [evL] at h
   split at h
   . rename_i y l hy hl
     simp only [Option.some.injEq] at h; subst h
     obtain ⟨h1, h2⟩ := ev_ok hS hy
     obtain ⟨h3, h4⟩ := evL_ok hS r l hl
     exact ⟨by simp [SV.toVL, h1, h3], h2, h4⟩
   . cases h

theorem field_run {P : Program} {t i : Nat} {f : Field} (h : fieldT P t i = some f) : ∃ fs, P.underlying t = some (.struct fs) /\ fs[i]? = some f := by
 unfold fieldT at h
 split at h
 . rename_i fs hd; exact ⟨fs, hd, h⟩
 . cases h

theorem fieldPlace_ok {P : Program} {w : World} {f : Field} {n : Nat} (hn : sizeT P f.type = some n) (h0 : n ≠ 0) (a : Addr) : (fieldPlace a f).run P w = .ok (a.add f.offset) w := by
 unfold fieldPlace
 simp only [Sem.run_bind, sizeT_run hn, Result.andThen_ok, if_neg h0]; rfl

theorem fieldAt_ok {P : Program} {w : World} {t i : Nat} {f : Field} {n : Nat} (h : fieldT P t i = some f) (hn : sizeT P f.type = some n) (h0 : n ≠ 0) (a : Addr) :
   (Instr.fieldAt t (.pointer (some a)) i).run P w = .ok (.pointer (some (a.add f.offset))) w := by
 obtain ⟨fs, hd, hf⟩ := field_run h
 unfold Instr.fieldAt
 simp only [Sem.run_bind, run_underlying hd, Result.andThen_ok, hf, Instr.sureAddr]
 simp only [Sem.run_pure, Result.andThen_ok, fieldPlace_ok hn h0]

theorem off_add (b : Nat) (o : Off) (k : Nat) : (⟨b, o.val, none⟩ : Addr).add k = ⟨b, (o.add k).val, none⟩ := by
 rw [add_block]
 cases o <;> simp [Off.val, Off.add, Nat.add_assoc]

theorem fieldS_ok {P : Program} {I : Nat -> Prop} {w : World} {t i : Nat} {f : Field} {segs : List (Seg T)} {y : SV T} (h : fieldT P t i = some f) (hv : Seg.validL I w segs) (hy : readS P f.type segs f.offset = some y) :
   (Instr.field t (.agg (Seg.cellsL segs).toArray) i).run P w = .ok y.toV w /\ y.valid I w := by
 obtain ⟨fs, hd, hf⟩ := field_run h
 unfold Instr.field
 simp only [Sem.run_bind, run_underlying hd, Result.andThen_ok, hf, asAgg, Sem.run_pure, part]
 unfold readS at hy
 split at hy
 . rename_i n ha hn
   simp only [Option.map_eq_some_iff] at hy
   obtain ⟨m, hm, rfl⟩ := hy
   obtain ⟨p, q, rfl, hp, hmn⟩ := subS_ok _ _ _ _ hm
   rw [validL_append, validL_append] at hv
   have h1 := cellsL_length p hv.1.1
   have h2 := cellsL_length m hv.1.2
   simp only [isAggT_run ha, Result.andThen_ok, if_true, Sem.run_bind, sizeT_run hn, Sem.run_pure]
   refine ⟨?_, hv.1.2⟩
   simp only [SV.toV, cellsL_append]
   congr 2
   apply Array.ext'
   simp only [Array.toList_extract, List.extract_eq_take_drop, Nat.add_sub_cancel_left]
   rw [List.append_assoc, List.drop_append_of_le_length (by omega), <- hp, <- h1, List.drop_length, List.nil_append, List.take_append_of_le_length (by omega), <- hmn, <- h2, List.take_length]
 . rename_i ha
   obtain ⟨h1, h2, _⟩ := findC_ok _ _ _ hv hy
   simp only [isAggT_run ha, Result.andThen_ok]
   simp [h1, h2]
 . cases hy
end Go.Vg
/-
 The generator's soundness, part 4: indexes, slices, assertions, literals.
-/
set_option linter.unusedVariables false
namespace Go.Vg
variable {T : Tys}

theorem indexAt_arr {P : Program} {w : World} {t e len sz : Nat} {k : IntKind} {n : Int} {a : Addr} (hd : P.underlying t = some (.array len e)) (hs : sizeT P e = some sz) (hn : inRange n len) :
   (Instr.indexAt t (.pointer (some a)) (.int k n)).run P w = .ok (.pointer (some (a.add (n.toNat * sz)))) w := by
 unfold Instr.indexAt
 simp only [Sem.run_bind, asIntOf, Sem.run_pure, Result.andThen_ok, run_underlying hd, Instr.sureAddr]
 simp only [Sem.run_bind, Sem.run_pure, Result.andThen_ok, Sem.run_ite, sizeT_run hs]
 rw [if_pos (show 0 <= n /\ n < (len : Int) from hn)]
theorem indexAt_slice {P : Program} {w : World} {t e len cap sz : Nat} {k : IntKind} {n : Int} {a : Addr} (hd : P.underlying t = some (.slice e)) (hs : sizeT P e = some sz) (hn : inRange n len) :
   (Instr.indexAt t (.slice (some a) len cap) (.int k n)).run P w = .ok (.pointer (some (a.add (n.toNat * sz)))) w := by
 unfold Instr.indexAt
 simp only [Sem.run_bind, asIntOf, Sem.run_pure, Result.andThen_ok, run_underlying hd]
 simp only [Sem.run_bind, Sem.run_pure, Result.andThen_ok, Sem.run_ite, sizeT_run hs]
 rw [if_pos (show 0 <= n /\ n < (len : Int) from hn)]

theorem idxInt_ok {S : St T} {a : Act} {I : Nat -> Prop} {w : World} (hS : FrOK S a I w) {x : Operand} {n : Int} (h : idxInt S x = some n) : ∃ k, a.eval x = .int k n := by
 unfold idxInt at h
 split at h
 . rename_i k m hx
   simp only [Option.some.injEq] at h; subst h
   exact ⟨k, (ev_ok hS hx).1⟩
 . cases h

theorem relOf_ok : ∀ (H : List (Ent T)) (rel : Rel T), relOf H = some rel -> ∃ i : Nat, H[i]? = some (.R rel)
 | [], _, h => by cases h
 | .R r :: t, rel, h => by simp only [relOf, Option.some.injEq] at h; subst h; exact ⟨0, rfl⟩
 | .B _ _ _ :: t, rel, h => by obtain ⟨i, hi⟩ := relOf_ok t rel h; exact ⟨i + 1, by simpa using hi⟩
 | .O _ _ _ :: t, rel, h => by obtain ⟨i, hi⟩ := relOf_ok t rel h; exact ⟨i + 1, by simpa using hi⟩
 | .F _ :: t, rel, h => by obtain ⟨i, hi⟩ := relOf_ok t rel h; exact ⟨i + 1, by simpa using hi⟩
 | .X :: t, rel, h => by obtain ⟨i, hi⟩ := relOf_ok t rel h; exact ⟨i + 1, by simpa using hi⟩
theorem roOK_nil (I : Nat -> Prop) (w : World) (e : TypeId) : roOK (T := T) I w e (.slice none 0 0) [] := ⟨none, 0, rfl, Nat.le_refl _, by decide, fun h => by simp at h⟩
theorem isRo_ok {C : Ctx T} {H : List (Ent T)} {w : World} (hH : HOK C H w) {rel : Rel T} (hr : relOf H = some rel) {e : TypeId} {x : Value} {l : List (T.El e)} (h : isRo rel e x l) : roOK (Owns H) w e x l := by
 obtain ⟨i, hi⟩ := relOf_ok H rel hr
 rcases h with h | ⟨rfl, rfl⟩
 . exact hH.ents i _ hi e x l h
 . exact roOK_nil _ _ _
theorem idxAddr_ok {C : Ctx T} {t : TypeId} {S : St T} {x : SV T} {n : Int} {c : SV T -> VCT} {w : World} {k : IntKind} (hH : HOK C S.H w) (hx : x.valid (Owns S.H) w) (h : (idxAddr C t S x n c).den) :
   ∃ y, (c y).den /\ y.valid (Owns S.H) w /\ (Instr.indexAt t x.toV (.int k n)).run C.P w = .ok y.toV w := by
 unfold idxAddr at h
 split at h
 . split at h
   . rename_i hh b o _ len e hd
     split at h
     . rename_i sz hs
       split at h
       . split at h
         . rename_i e' kk l hr
           split at h
           . rename_i hsz
             obtain ⟨hn, h⟩ := factB_den h
             refine ⟨_, h, trivial, ?_⟩
             simp only [SV.toV]
             rw [indexAt_arr hd hs hn, add_block]
             simp [Off.val]
           . exact h.elim
         . split at h
           . exact h.elim
           . obtain ⟨hn, h⟩ := factB_den h
             refine ⟨_, h, trivial, ?_⟩
             simp only [SV.toV]
             rw [indexAt_arr hd hs hn, add_block]
             simp [Off.val]
       . exact h.elim
     . exact h.elim
   . exact h.elim
 . split at h
   . rename_i hh b e base lo len cap _ e' hd
     split at h
     . rename_i hsz
       obtain ⟨hn, h⟩ := factB_den h
       refine ⟨_, h, trivial, ?_⟩
       simp only [SV.toV]
       rw [indexAt_slice hd hsz.1 hn, add_block]
       simp only [Off.val, szE, Nat.add_mul, Nat.add_zero, Nat.add_assoc]
     . exact h.elim
   . exact h.elim
 . split at h
   . rename_i hh e v kk _ e' hd
     split at h
     . rename_i hsz
       split at h
       . rename_i v' e2 l he
         have hok := ent_ok hH hh
         rw [he] at hok
         split at h
         . rename_i hee
           subst hee
           obtain ⟨rfl, h⟩ := h
           obtain ⟨hn, h⟩ := factB_den h
           obtain ⟨g, cap, rfl, _, _, _⟩ := own_cells hok (by have := hn.1; have := hn.2; omega)
           refine ⟨_, h, trivial, ?_⟩
           simp only [SV.toV]
           rw [indexAt_slice hd hsz.1 hn]
           simp [addrOf, szE]
         . exact h.elim
       . exact h.elim
     . exact h.elim
   . exact h.elim
 . split at h
   . rename_i v m _ e' hd
     split at h
     . rename_i hsz
       split at h
       . rename_i hh _
         split at h
         . rename_i v' e2 l he
           have hok := ent_ok hH hh
           rw [he] at hok
           split at h
           . rename_i hee
             subst hee
             obtain ⟨p, ⟨rfl, hp1, hp2⟩, h⟩ := h
             obtain ⟨hn, h⟩ := h
             obtain ⟨g, cap, rfl, hlc, _, _⟩ := own_cells hok (by have := hn.1; have := hn.2; omega)
             refine ⟨_, h, trivial, ?_⟩
             simp only [SV.toV, sliceVal]
             rw [if_neg (by have := hn.1; have := hn.2; omega)]
             simp only [Option.map_some]
             rw [indexAt_slice hd hsz.1 hn, addr_add_add]
             simp [addrOf, szE, Nat.add_mul]
           . exact h.elim
         . exact h.elim
       . split at h
         . rename_i rel hrel
           obtain ⟨l, hl, h⟩ := h
           obtain ⟨A, cap, hv, h1, h2, hro⟩ := isRo_ok hH hrel hl
           obtain ⟨A', cap', hv'⟩ := hx
           have hm : m = l.length := by rw [hv'] at hv; cases hv; rfl
           obtain ⟨hn, h⟩ := factB_den (h hm)
           subst hv
           obtain ⟨ad, rfl, hro2⟩ := hro (by have := hn.1; have := hn.2; omega)
           refine ⟨_, h, ⟨_, cap, rfl, h1, h2, fun _ => ⟨ad, rfl, hro2⟩⟩, ?_⟩
           simp only [SV.toV]
           rw [indexAt_slice hd hsz.1 hn]
           simp [addrOf, szE]
         . exact h.elim
     . exact h.elim
   . exact h.elim
 . split at h
   . rename_i hh e v lo hi v0 _ e' hd
     split at h
     . rename_i hsz
       split at h
       . rename_i v' e2 l he
         have hok := ent_ok hH hh
         rw [he] at hok
         split at h
         . rename_i hee
           subst hee
           obtain ⟨rfl, h⟩ := h
           obtain ⟨⟨hn, hi2⟩, h⟩ := factB_den h
           obtain ⟨g, cap, rfl, hlc, _, _⟩ := own_cells hok (by have := hn.1; have := hn.2; omega)
           refine ⟨_, h, trivial, ?_⟩
           obtain ⟨A9, n9, cap9, hA9, hv9⟩ := hx
           cases hA9
           obtain rfl : v0 = _ := hv9.resolve_right (fun h9 => by have := hn.1; have := hn.2; omega)
           simp only [SV.toV, sliceVal]
           rw [if_neg (by have := hn.1; have := hn.2; omega)]
           simp only [Option.map_some]
           rw [indexAt_slice hd hsz.1 hn, addr_add_add]
           simp [addrOf, szE, Nat.add_mul]
         . exact h.elim
       . exact h.elim
     . exact h.elim
   . exact h.elim
 . split at h
   . rename_i e v l _ e' hd
     split at h
     . rename_i hsz
       obtain ⟨hn, h⟩ := factB_den h
       obtain ⟨A, cap, hv, h1, h2, hro⟩ := hx
       subst hv
       obtain ⟨ad, rfl, hro2⟩ := hro (by have := hn.1; have := hn.2; omega)
       refine ⟨_, h, ⟨_, cap, rfl, h1, h2, fun _ => ⟨ad, rfl, hro2⟩⟩, ?_⟩
       simp only [SV.toV]
       rw [indexAt_slice hd hsz.1 hn]
       simp [addrOf, szE]
     . exact h.elim
   . exact h.elim
 . exact h.elim

theorem bound_ok {P : Program} {S : St T} {a : Act} {I : Nat -> Prop} {w : World} (hS : FrOK S a I w) {x : Option Operand} {d n : Int} (h : bound S x d = some n) :
   (x = none /\ n = d) \/ ∃ y k, x = some y /\ a.eval y = .int k n := by
 unfold bound at h
 split at h
 . simp only [Option.some.injEq] at h; exact .inl ⟨rfl, h.symm⟩
 . obtain ⟨k, hk⟩ := idxInt_ok hS h
   exact .inr ⟨_, k, rfl, hk⟩

theorem sliceBound_ok {P : Program} {w : World} {k : IntKind} {n : Int} {y : Nat} {code : BoundsCode} (h : 0 <= n /\ n <= y) : (Instr.sliceBound (.int k n) y code).run P w = .ok n.toNat w := by
 unfold Instr.sliceBound
 simp only [Sem.run_bind, asIntOf, Sem.run_pure, Result.andThen_ok, Sem.run_ite]
 rw [if_pos h]

theorem sliceBounds_ok {P : Program} {S : St T} {a : Act} {I : Nat -> Prop} {w : World} (hS : FrOK S a I w) {isSlice : Bool} {len cap : Nat} {lo hi : Option Operand} {l u : Int} (hl : bound S lo 0 = some l) (hu : bound S hi len = some u)
   (h0 : 0 <= l) (h1 : l <= u) (h2 : u <= cap) : (Instr.sliceBounds isSlice len cap (lo.map a.eval) (hi.map a.eval) none).run P w = .ok (l.toNat, u.toNat, cap) w := by
 unfold Instr.sliceBounds
 simp only [Sem.run_bind, Sem.run_pure, Result.andThen_ok, Option.isSome_none, Bool.false_eq_true, if_false]
 rcases bound_ok (P := P) hS hu with ⟨rfl, rfl⟩ | ⟨y, k, rfl, hy⟩
 . rcases bound_ok (P := P) hS hl with ⟨rfl, rfl⟩ | ⟨z, k', rfl, hz⟩
   . simp
   . simp only [Option.map_some, Option.map_none, hz, Sem.run_bind, Sem.run_pure, Result.andThen_ok, sliceBound_ok (k := k') (code := .sliceB) (y := len) ⟨h0, h1⟩]
     simp
 . have h3 : ∀ code, (Instr.sliceBound (.int k u) cap code).run P w = .ok u.toNat w := fun code => sliceBound_ok ⟨by omega, h2⟩
   rcases bound_ok (P := P) hS hl with ⟨rfl, rfl⟩ | ⟨z, k', rfl, hz⟩
   . simp only [Option.map_some, Option.map_none, hy, Sem.run_bind, Sem.run_pure, Result.andThen_ok, h3]
     simp
   . have h4 : ∀ code, (Instr.sliceBound (.int k' l) u.toNat code).run P w = .ok l.toNat w := fun code => sliceBound_ok ⟨h0, by omega⟩
     simp only [Option.map_some, hy, hz, Sem.run_bind, Sem.run_pure, Result.andThen_ok, h3, h4]

theorem take_drop_flat (e : TypeId) (l : List (T.El e)) (n : Nat) : (l.drop n).flatMap (T.enc e).enc = (l.flatMap (T.enc e).enc).drop (n * szE T e) := by
 induction n generalizing l with
 | zero => simp
 | succ n ih =>
   cases l with
   | nil => simp
   | cons x r =>
     have hx : ((T.enc e).enc x).length = szE T e := (T.enc e).len x
     simp only [List.drop_succ_cons, List.flatMap_cons]
     rw [ih r, Nat.succ_mul, Nat.add_comm, List.drop_append_of_le_length' hx]
where
 List.drop_append_of_le_length' {α : Type} {a b : List α} {n m : Nat} (h : a.length = n) : (a ++ b).drop (n + m) = b.drop m := by subst h; simp

theorem flat_prefix (e : TypeId) (l : List (T.El e)) (n j : Nat) {v : Value} (h : ((l.take n).flatMap (T.enc e).enc)[j]? = some v) : (l.flatMap (T.enc e).enc)[j]? = some v := by
 have : l.flatMap (T.enc e).enc = (l.take n).flatMap (T.enc e).enc ++ (l.drop n).flatMap (T.enc e).enc := by rw [<- List.flatMap_append, List.take_append_drop]
 rw [this, List.getElem?_append_left]
 . exact h
 . rcases Nat.lt_or_ge j ((l.take n).flatMap (T.enc e).enc).length with h0 | h0
   . exact h0
   . rw [List.getElem?_eq_none h0] at h; cases h

theorem ro_cut {P : Program} {S : St T} {a : Act} {I : Nat -> Prop} {w : World} {t e e' : TypeId} {v : Value} {xs : List (T.El e)} {lo hi : Option Operand} {l u : Int} (hS : FrOK S a I w) (hd : P.underlying t = some (.slice e'))
   (hsz : sizeT P e' = some (szE T e)) (hro0 : roOK I w e v xs) (hl : bound S lo 0 = some l) (hu : bound S hi xs.length = some u) (h0 : 0 <= l) (h1 : l <= u) (h2 : u <= xs.length) :
   roOK I w e (sliceVal v l.toNat u.toNat (szE T e)) ((xs.take u.toNat).drop l.toNat) /\ (Instr.sliceAt t v (lo.map a.eval) (hi.map a.eval) none).run P w = .ok (sliceVal v l.toNat u.toNat (szE T e)) w := by
 obtain ⟨A, cap, rfl, hc, hm, hro⟩ := hro0
 refine ⟨?_, ?_⟩
 . refine ⟨(if cap = l.toNat then A else A.map (·.add (l.toNat * szE T e))), cap - l.toNat, ?_, ?_, ?_, fun hlt => ?_⟩
   . simp only [sliceVal]
     congr 1
     simp; omega
   . simp; omega
   . omega
   . have hlt2 : l.toNat < xs.length := by
       simp only [List.length_drop, List.length_take] at hlt
       omega
     have hne : ¬ cap = l.toNat := by omega
     obtain ⟨ad, rfl, hn, hb, hcell⟩ := hro (Nat.lt_of_le_of_lt (Nat.zero_le _) hlt2)
     rw [if_neg hne]
     refine ⟨ad.add (l.toNat * szE T e), rfl, ?_, ?_, fun j v hj => ?_⟩
     . have hb' : (ad.add (l.toNat * szE T e)).block = ad.block := by unfold Addr.add; split <;> rfl
       rw [hb']; exact hn
     . have hb' : (ad.add (l.toNat * szE T e)).block = ad.block := by unfold Addr.add; split <;> rfl
       rw [hb']; exact hb
     . rw [addr_add_add]
       rw [take_drop_flat, List.getElem?_drop] at hj
       exact hcell _ _ (flat_prefix e _ _ _ hj)
 . unfold Instr.sliceAt Instr.slice
   simp only [Sem.run_bind, run_underlying hd, Result.andThen_ok]
   rw [sliceBounds_ok (len := xs.length) (cap := cap) hS hl hu h0 h1 (by omega)]
   simp only [Result.andThen_ok, sizeT_run hsz, Sem.run_pure]
   rfl
theorem slicing_ok {C : Ctx T} {t : TypeId} {S : St T} {x : SV T} {lo hi mx : Option Operand} {c : SV T -> VCT} {a : Act} {w : World} (hS : FrOK S a (Owns S.H) w) (hH : HOK C S.H w) (hx : x.valid (Owns S.H) w)
   (h : (slicing C t S x lo hi mx c).den) : ∃ y, (c y).den /\ y.valid (Owns S.H) w /\ (Instr.sliceAt t x.toV (lo.map a.eval) (hi.map a.eval) (mx.map a.eval)).run C.P w = .ok y.toV w := by
 unfold slicing at h
 split at h
 . exact h.elim
 rename_i hmx
 have hmx : mx = none := by cases mx <;> simp_all
 subst hmx
 split at h
 . rename_i hh b o
   split at h
   . rename_i n e hd
     split at h
     . split at h
       . rename_i e' kk l0 hr
         split at h
         . rename_i hsz
           split at h
           . rename_i l u hl hu
             obtain ⟨⟨h0, h1, h2, h3⟩, h⟩ := factB_den h
             refine ⟨_, h, trivial, ?_⟩
             unfold Instr.sliceAt
             simp only [Sem.run_bind, run_underlying hd, Result.andThen_ok, SV.toV, Instr.sureAddr, Sem.run_pure, Option.map_none]
             rw [sliceBounds_ok hS hl hu h0 h1 h2]
             simp only [Result.andThen_ok, sizeT_run hsz]
             congr 2
             split
             . rename_i hz
               have : l = 0 := by omega
               subst this
               simp [Off.val]
             . rw [add_block]; simp [Off.val, szE]
           . exact h.elim
         . exact h.elim
       . exact h.elim
     . exact h.elim
   . exact h.elim
 . rename_i hh b e base k len cap
   split at h
   . rename_i e' hd
     split at h
     . rename_i hsz
       split at h
       . rename_i l u hl hu
         obtain ⟨⟨h0, h1, h2, h3⟩, h⟩ := factB_den h
         refine ⟨_, h, trivial, ?_⟩
         unfold Instr.sliceAt Instr.slice
         simp only [Sem.run_bind, run_underlying hd, Result.andThen_ok, SV.toV, Option.map_none]
         rw [sliceBounds_ok hS hl hu h0 h1 h2]
         simp only [Result.andThen_ok, sizeT_run hsz, Sem.run_pure]
         congr 2
         split
         . rename_i hz
           have : l = 0 := by omega
           subst this
           simp
         . simp only [Option.map_some]; rw [add_block]; simp [szE, Nat.add_mul, Nat.add_assoc]
       . exact h.elim
     . exact h.elim
   . exact h.elim
 . rename_i hh e v k
   split at h
   . rename_i e' hd
     split at h
     . rename_i hsz
       split at h
       . rename_i v' e2 xs he
         have hok := ent_ok hH hh
         rw [he] at hok
         split at h
         . rename_i hee
           subst hee
           split at h
           . rename_i l u hl hu
             obtain ⟨rfl, ⟨hk, h0, h1, h2⟩, h⟩ := h
             refine ⟨_, h, ?_, ?_⟩
             . obtain ⟨A, cap, hA⟩ := hx; exact ⟨A, _, cap, hA, .inl rfl⟩
             . obtain ⟨hlen, hv⟩ := hok
               rcases hv with ⟨rfl, hz⟩ | ⟨g, cap, cur, rfl, _, _, hnc, _⟩
               . have : l = 0 := by omega
                 subst this
                 have : u = 0 := by omega
                 subst this
                 unfold Instr.sliceAt Instr.slice
                 simp only [Sem.run_bind, run_underlying hd, Result.andThen_ok, SV.toV, Option.map_none]
                 rw [sliceBounds_ok (len := 0) (cap := 0) hS hl (by rw [<- hu, hk, hz]) (by omega) (by omega) (by omega)]
                 simp only [Result.andThen_ok, sizeT_run hsz, Sem.run_pure]
                 rfl
               . unfold Instr.sliceAt Instr.slice
                 simp only [Sem.run_bind, run_underlying hd, Result.andThen_ok, SV.toV, Option.map_none]
                 rw [sliceBounds_ok (len := xs.length) (cap := cap) hS hl (by rw [<- hu, hk]) h0 h1 (by omega)]
                 simp only [Result.andThen_ok, sizeT_run hsz, Sem.run_pure]
                 rfl
           . exact h.elim
         . exact h.elim
       . exact h.elim
     . exact h.elim
   . exact h.elim
 . rename_i hh e v aa bb v0
   split at h
   . rename_i e' hd
     split at h
     . rename_i hsz
       split at h
       . rename_i v' e2 xs he
         have hok := ent_ok hH hh
         rw [he] at hok
         split at h
         . rename_i hee
           subst hee
           split at h
           . rename_i l u hl hu
             obtain ⟨rfl, ⟨hab, hbl, h0, h1, h2⟩, h⟩ := h
             obtain ⟨A, n, cap, rfl, hv⟩ := hx
             have hcap : xs.length <= cap := by
               obtain ⟨_, hv⟩ := hok
               rcases hv with ⟨h8, hz⟩ | ⟨g, cap8, cur, h8, _, _, hnc, _⟩
               . cases h8; omega
               . cases h8; exact hnc
             obtain ⟨A1, hA1⟩ := ovOK.slice (sz := szE T e) (lo := aa) (hi := bb) (v := v0) ⟨A, n, cap, rfl, hv⟩
             have hA1 : v0 = .slice A1 (bb - aa) (cap - aa) := hA1
             have hrun : (Instr.sliceAt t v0 (lo.map a.eval) (hi.map a.eval) none).run C.P w = .ok (.slice (if cap - aa - l.toNat = 0 then A1 else A1.map (·.add (l.toNat * szE T e))) (u.toNat - l.toNat) (cap - aa - l.toNat)) w := by
               rw [hA1]
               unfold Instr.sliceAt Instr.slice
               simp only [Sem.run_bind, run_underlying hd, Result.andThen_ok]
               rw [sliceBounds_ok (len := bb - aa) (cap := cap - aa) hS hl hu h0 h1 (by omega)]
               simp only [Result.andThen_ok, sizeT_run hsz, Sem.run_pure]
               have e9 : (cap - aa = l.toNat) = (cap - aa - l.toNat = 0) := propext ⟨fun h => by omega, fun h => by omega⟩
               first | (simp only [e9]; done) | (simp only [e9]; rfl) | rfl
             refine ⟨_, h (.slice (if cap - aa - l.toNat = 0 then A1 else A1.map (·.add (l.toNat * szE T e))) (u.toNat - l.toNat) (cap - aa - l.toNat)), ?_, hrun⟩
             refine ⟨A, n, cap, rfl, ?_⟩
             by_cases hz : cap - aa - l.toNat = 0
             . by_cases h00 : aa + l.toNat = 0
               . refine .inl ?_
                 have ha0 : aa = 0 := by omega
                 subst ha0
                 rcases hv with rfl | ⟨h7, h8, h9, _⟩
                 . have hc0 : cap = 0 := by omega
                   have hu0 : u.toNat = 0 := by omega
                   have hl0 : l.toNat = 0 := by omega
                   subst hc0
                   simp only [sliceVal, Value.slice.injEq] at hA1 ⊢
                   simp [hu0, hl0, <- hA1.1]
                 . omega
               . exact .inr ⟨by omega, by omega, by omega, A1, by rw [if_pos hz]; congr 1; omega⟩
             . refine .inl ?_
               rw [if_neg hz]
               rcases hv with rfl | ⟨h7, h8, _, _⟩
               . simp only [sliceVal, Value.slice.injEq] at hA1 ⊢
                 rw [if_neg (by omega)]
                 refine ⟨?_, by omega, by omega⟩
                 rw [<- hA1.1, if_neg (by omega)]
                 cases A with
                 | none => rfl
                 | some ad => simp only [Option.map_some]; rw [addr_add_add, Nat.add_mul]
               . omega
           . exact h.elim
         . exact h.elim
       . exact h.elim
     . exact h.elim
   . exact h.elim
 . rename_i v m
   split at h
   . rename_i e' hd
     split at h
     . rename_i hsz
       split at h
       . split at h
         . rename_i l u hl hu
           obtain ⟨⟨h0, h1, h2⟩, h⟩ := h
           obtain ⟨A, cap, rfl⟩ := hx
           refine ⟨_, h, ⟨_, _, rfl⟩, ?_⟩
           unfold Instr.sliceAt Instr.slice
           simp only [Sem.run_bind, run_underlying hd, Result.andThen_ok, SV.toV, Option.map_none]
           rw [sliceBounds_ok (len := m) (cap := cap) hS hl hu h0 h1 h2]
           simp only [Result.andThen_ok, sizeT_run hsz, Sem.run_pure]
           rfl
         . exact h.elim
       . split at h
         . rename_i rel l u hrel hl hu
           obtain ⟨xs, hl9, h⟩ := h
           have hro9 := isRo_ok hH hrel hl9
           obtain ⟨A', cap', hv'⟩ := hx
           have hm9 : m = xs.length := by obtain ⟨A, cap, hv, _⟩ := hro9; rw [hv'] at hv; cases hv; rfl
           obtain ⟨⟨h0, h1, h2⟩, h⟩ := h hm9
           obtain ⟨hy1, hy2⟩ := ro_cut (lo := lo) (hi := hi) (a := a) hS hd hsz hro9 hl (hm9 ▸ hu) h0 h1 (hm9 ▸ h2)
           exact ⟨_, h, hy1, hy2⟩
         . exact h.elim
     . exact h.elim
   . exact h.elim
 . rename_i e v xs
   split at h
   . rename_i e' hd
     split at h
     . rename_i hsz
       split at h
       . rename_i l u hl hu
         obtain ⟨⟨h0, h1, h2⟩, h⟩ := factB_den h
         obtain ⟨A, cap, rfl, hc, hm, hro⟩ := hx
         refine ⟨_, h, ?_, ?_⟩
         . refine ⟨(if cap = l.toNat then A else A.map (·.add (l.toNat * szE T e))), cap - l.toNat, ?_, ?_, ?_, fun hlt => ?_⟩
           . simp only [sliceVal]
             congr 1
             simp; omega
           . simp; omega
           . omega
           . have hlt2 : l.toNat < xs.length := by
               simp only [List.length_drop, List.length_take] at hlt
               omega
             have hne : ¬ cap = l.toNat := by omega
             obtain ⟨ad, rfl, hn, hb, hcell⟩ := hro (Nat.lt_of_le_of_lt (Nat.zero_le _) hlt2)
             rw [if_neg hne]
             refine ⟨ad.add (l.toNat * szE T e), rfl, ?_, ?_, fun j v hj => ?_⟩
             . have hb' : (ad.add (l.toNat * szE T e)).block = ad.block := by unfold Addr.add; split <;> rfl
               rw [hb']; exact hn
             . have hb' : (ad.add (l.toNat * szE T e)).block = ad.block := by unfold Addr.add; split <;> rfl
               rw [hb']; exact hb
             . rw [addr_add_add]
               rw [take_drop_flat, List.getElem?_drop] at hj
               exact hcell _ _ (flat_prefix e _ _ _ hj)
         . unfold Instr.sliceAt Instr.slice
           simp only [Sem.run_bind, run_underlying hd, Result.andThen_ok, SV.toV, Option.map_none]
           rw [sliceBounds_ok (len := xs.length) (cap := cap) hS hl hu h0 h1 (by omega)]
           simp only [Result.andThen_ok, sizeT_run hsz, Sem.run_pure]
           rfl
       . exact h.elim
     . exact h.elim
   . exact h.elim
 . split at h
   . rename_i e' hd
     split at h
     . rename_i sz l u hsz hl hu
       obtain ⟨⟨rfl, rfl⟩, h⟩ := h
       refine ⟨_, h, rfl, ?_⟩
       unfold Instr.sliceAt Instr.slice
       simp only [Sem.run_bind, run_underlying hd, Result.andThen_ok, SV.toV, Option.map_none]
       rw [sliceBounds_ok (len := 0) (cap := 0) hS hl hu (by omega) (by omega) (by omega)]
       simp only [Result.andThen_ok, sizeT_run hsz, Sem.run_pure]
       rfl
     . exact h.elim
   . exact h.elim
 . exact h.elim
end Go.Vg
/-
 The generator's soundness, part 5: literals, assertions; all operations that leave memory alone.
-/
set_option linter.unusedVariables false
namespace Go.Vg
variable {T : Tys}

def ZOK (C : Ctx T) : Prop := ∀ t z, C.zt t = some z -> ((C.P.info? t).bind (·.zero)).map (·.cells.toList) = some (Seg.cellsL z) /\ ∀ I w, Seg.validL I w z

theorem zero_run {C : Ctx T} (hz : ZOK C) {t : TypeId} {z : List (Seg T)} (h : C.zt t = some z) (w : World) : ∃ v, (zeroValue t).run C.P w = .ok v w /\ v.cells = (Seg.cellsL z).toArray := by
 obtain ⟨h1, _⟩ := hz t z h
 cases hi : C.P.info? t with
 | none => rw [hi] at h1; cases h1
 | some i =>
   rw [hi] at h1
   simp only [Option.bind_some, Option.map_eq_some_iff] at h1
   obtain ⟨v, hv, h1⟩ := h1
   refine ⟨v, ?_, by rw [<- h1]⟩
   simp [zeroValue, typeInfo, hi, hv]

theorem seg_cells_toV {I : Nat -> Prop} {w : World} {x : SV T} (h : x.valid I w) (hne : ∀ xs, x ≠ .t xs) (hu : x ≠ .un) : x.toV.cells = (Seg.cellsL x.segs).toArray /\ Seg.validL I w x.segs := by
 have one : ∀ v : Value, v.oneCell' = true -> v.cells = #[v] := by intro v hv; cases v <;> first | rfl | cases hv
 cases x with
 | a xs => exact ⟨rfl, h⟩
 | t xs => exact absurd rfl (hne xs)
 | un => exact absurd rfl hu
 | v x => exact ⟨by simp [SV.segs, Seg.cellsL, Seg.cells, one _ h, SV.toV], ⟨h, h⟩, trivial⟩
 | p _ _ _ => exact ⟨rfl, ⟨trivial, rfl⟩, trivial⟩
 | s _ _ _ _ _ _ _ => exact ⟨rfl, ⟨trivial, rfl⟩, trivial⟩
 | o _ _ x _ =>
   have h' : x.oneCell' = true := by obtain ⟨A, cap, rfl⟩ := h; rfl
   exact ⟨by simp [SV.segs, Seg.cellsL, Seg.cells, SV.toV]; exact one x h', ⟨h, h'⟩, trivial⟩
 | ov _ e x lo hi v =>
   have h' : v.oneCell' = true := by obtain ⟨A, h2⟩ := ovOK.slice h; rw [h2]; rfl
   exact ⟨by simp [SV.segs, Seg.cellsL, Seg.cells, SV.toV]; exact one _ h', ⟨h, h'⟩, trivial⟩
 | w x _ =>
   have h' : x.oneCell' = true := by obtain ⟨A, cap, rfl⟩ := h; rfl
   exact ⟨by simp [SV.segs, Seg.cellsL, Seg.cells, SV.toV]; exact one x h', ⟨h, h'⟩, trivial⟩
 | q _ _ _ _ _ => exact ⟨rfl, ⟨trivial, rfl⟩, trivial⟩
 | ro e x l =>
   have h' : x.oneCell' = true := by obtain ⟨A, cap, rfl, _⟩ := h; rfl
   exact ⟨by simp [SV.segs, Seg.cellsL, Seg.cells, SV.toV]; exact one _ h', ⟨h, h'⟩, trivial⟩
 | rq e x l _ _ => exact ⟨rfl, ⟨h, rfl⟩, trivial⟩
 | i t x => exact ⟨rfl, ⟨h, rfl⟩, trivial⟩
 | f _ _ _ => exact ⟨rfl, ⟨h, rfl⟩, trivial⟩

theorem foldl_set (l : List Value) : ∀ (k off : Nat) (cs : Array Value), off + k + l.length <= cs.size ->
   (l.zipIdx k).foldl (fun cs (c, j) => cs.setIfInBounds (off + j) c) cs = (cs.toList.take (off + k) ++ l ++ cs.toList.drop (off + k + l.length)).toArray := by
 induction l with
 | nil => intro k off cs h; simp
 | cons x r ih =>
   intro k off cs h
   simp only [List.zipIdx_cons, List.foldl_cons]
   simp only [List.length_cons] at h
   rw [ih (k + 1) off _ (by simp; omega)]
   apply Array.ext'
   simp only [Array.toList_setIfInBounds]
   have e1 : (cs.toList.set (off + k) x).take (off + (k + 1)) = cs.toList.take (off + k) ++ [x] := by
     rw [<- Nat.add_assoc, List.take_add_one]
     simp only [List.getElem?_set_self (show off + k < cs.toList.length by simp; omega), List.take_set_of_le (Nat.le_refl _), Option.toList_some]
   have e2 : (cs.toList.set (off + k) x).drop (off + (k + 1) + r.length) = cs.toList.drop (off + k + (r.length + 1)) := by
     rw [List.drop_set_of_lt (by omega)]
     congr 1; omega
   rw [e1, e2]; simp

theorem fill_ok {I : Nat -> Prop} {w : World} (place : Nat -> Option (Nat × Nat)) : ∀ (l : List (Nat × SV T)) (z segs : List (Seg T)) (sz : Nat -> Nat) (off : Nat -> Nat),
   Seg.validL I w z -> (∀ p ∈ l, p.2.valid I w /\ (∀ xs, p.2 ≠ .t xs) /\ p.2 ≠ .un /\ place p.1 = some (off p.1, sz p.1) /\ segsLen p.2.segs = sz p.1) ->
   (l.foldlM (fun z p => putS z (off p.1) (sz p.1) p.2.segs) z) = some segs ->
   Instr.fill place (Seg.cellsL z).toArray (l.map fun p => (p.1, p.2.toV)) = some (Seg.cellsL segs).toArray /\ Seg.validL I w segs := by
 intro l
 induction l with
 | nil =>
   intro z segs sz off hv _ h
   simp only [List.foldlM_nil] at h
   have : z = segs := by simpa using h
   subst this
   exact ⟨rfl, hv⟩
 | cons p r ih =>
   intro z segs sz off hv hp h
   obtain ⟨h1, h2, h2', h3, h4⟩ := hp p (by simp)
   simp only [List.foldlM_cons] at h
   cases hput : putS z (off p.1) (sz p.1) p.2.segs with
   | none => rw [hput] at h; cases h
   | some z' =>
     rw [hput] at h
     obtain ⟨a, m, q, rfl, rfl, ha, hm⟩ := putS_ok _ _ _ _ _ hput
     obtain ⟨c1, c2⟩ := seg_cells_toV h1 h2 h2'
     rw [validL_append, validL_append] at hv
     have la := cellsL_length a hv.1.1
     have lm := cellsL_length m hv.1.2
     have lp := cellsL_length _ c2
     have hv' : Seg.validL I w (a ++ p.2.segs ++ q) := by rw [validL_append, validL_append]; exact ⟨⟨hv.1.1, c2⟩, hv.2⟩
     obtain ⟨e1, e2⟩ := ih (a ++ p.2.segs ++ q) segs sz off hv' (fun p' hp' => hp p' (by simp [hp'])) h
     refine ⟨?_, e2⟩
     rw [<- e1]
     simp only [List.map_cons, Instr.fill, h3, c1, List.size_toArray, lp, h4]
     rw [if_neg (by simp [cellsL_append]; omega)]
     congr 1
     have := foldl_set (Seg.cellsL p.2.segs) 0 (off p.1) (Seg.cellsL (a ++ m ++ q)).toArray (by simp [cellsL_append]; omega)
     rw [<- Array.foldl_toList]
     simp only [Array.toList_zipIdx]
     rw [this]
     congr 1
     simp only [Nat.add_zero, cellsL_append]
     rw [show off p.1 + (Seg.cellsL p.2.segs).length = (Seg.cellsL a ++ Seg.cellsL m).length by simp; omega, List.drop_left]
     rw [show off p.1 = (Seg.cellsL a).length by omega, List.append_assoc (Seg.cellsL a), List.take_left]

theorem isPart_ok {x : SV T} (h : x.isPart = true) : (∀ xs, x ≠ .t xs) /\ x ≠ .un := by
 cases x <;> simp_all [SV.isPart]

theorem buildS_ok {I : Nat -> Prop} {w : World} (places : List (Nat × Nat)) : ∀ (l : List (Nat × SV T)) (z segs : List (Seg T)), Seg.validL I w z -> (∀ p ∈ l, p.2.valid I w) -> buildS places l z = some segs ->
   Instr.fill (places[·]?) (Seg.cellsL z).toArray (l.map fun p => (p.1, p.2.toV)) = some (Seg.cellsL segs).toArray /\ Seg.validL I w segs := by
 intro l z segs hz hl h
 have key : ∀ (l : List (Nat × SV T)) (z : List (Seg T)), buildS places l z = some segs -> (∀ p ∈ l, (∀ xs, p.2 ≠ .t xs) /\ p.2 ≠ .un /\ places[p.1]? = some ((places[p.1]?.getD (0, 0)).1, (places[p.1]?.getD (0, 0)).2) /\ segsLen p.2.segs = (places[p.1]?.getD (0, 0)).2) /\
     (l.foldlM (fun z p => putS z (places[p.1]?.getD (0, 0)).1 (places[p.1]?.getD (0, 0)).2 p.2.segs) z) = some segs := by
   intro l
   induction l with
   | nil => intro z h; simp only [buildS] at h; exact ⟨by simp, by simpa using h⟩
   | cons p r ih =>
     intro z h
     obtain ⟨i, x⟩ := p
     simp only [buildS] at h
     split at h
     . rename_i off n hp
       split at h
       . rename_i hc
         split at h
         . rename_i z' hput
           obtain ⟨h1, h2⟩ := ih z' h
           refine ⟨fun p hp' => ?_, ?_⟩
           . rcases List.mem_cons.1 hp' with rfl | hp'
             . have := isPart_ok hc.2
               exact ⟨this.1, this.2, by simp [hp], by simp [hp, hc.1]⟩
             . exact h1 p hp'
           . simp only [List.foldlM_cons, hp, Option.getD_some, hput]
             exact h2
         . cases h
       . cases h
     . cases h
 obtain ⟨h1, h2⟩ := key l z h
 exact fill_ok (places[·]?) l z segs (fun i => (places[i]?.getD (0, 0)).2) (fun i => (places[i]?.getD (0, 0)).1) hz (fun p hp => ⟨hl p hp, h1 p hp⟩) h2

theorem buildA_ok {I : Nat -> Prop} {w : World} (n : Nat) : ∀ (l : List (Nat × SV T)) (z segs : List (Seg T)), Seg.validL I w z -> (∀ p ∈ l, p.2.valid I w) -> buildA n l z = some segs ->
   Instr.fill (fun i => some (i * n, n)) (Seg.cellsL z).toArray (l.map fun p => (p.1, p.2.toV)) = some (Seg.cellsL segs).toArray /\ Seg.validL I w segs := by
 intro l z segs hz hl h
 have key : ∀ (l : List (Nat × SV T)) (z : List (Seg T)), buildA n l z = some segs -> (∀ p ∈ l, (∀ xs, p.2 ≠ .t xs) /\ p.2 ≠ .un /\ (some (p.1 * n, n) : Option (Nat × Nat)) = some (p.1 * n, n) /\ segsLen p.2.segs = n) /\
     (l.foldlM (fun z p => putS z (p.1 * n) n p.2.segs) z) = some segs := by
   intro l
   induction l with
   | nil => intro z h; simp only [buildA] at h; exact ⟨by simp, by simpa using h⟩
   | cons p r ih =>
     intro z h
     obtain ⟨i, x⟩ := p
     simp only [buildA] at h
     split at h
     . rename_i hc
       split at h
       . rename_i z' hput
         obtain ⟨h1, h2⟩ := ih z' h
         refine ⟨fun p hp' => ?_, ?_⟩
         . rcases List.mem_cons.1 hp' with rfl | hp'
           . have := isPart_ok hc.2
             exact ⟨this.1, this.2, rfl, hc.1⟩
           . exact h1 p hp'
         . simp only [List.foldlM_cons, hput]
           exact h2
       . cases h
     . cases h
 obtain ⟨h1, h2⟩ := key l z h
 exact fill_ok _ l z segs (fun _ => n) (fun i => i * n) hz (fun p hp => ⟨hl p hp, h1 p hp⟩) h2

theorem evP_ok {S : St T} {a : Act} {I : Nat -> Prop} {w : World} (hS : FrOK S a I w) : ∀ (ps : List (Nat × Operand)) (l : List (Nat × SV T)), evP S ps = some l ->
   (ps.map fun p => (p.1, a.eval p.2)) = (l.map fun p => (p.1, p.2.toV)) /\ ∀ p ∈ l, p.2.valid I w
 | [], l, h => by simp only [evP, Option.some.injEq] at h; subst h; exact ⟨rfl, by simp⟩
 | (i, x) :: r, l, h => by
   simp only [evP] at h
   split at h
   . rename_i y l' hy hl
     simp only [Option.some.injEq] at h; subst h
     obtain ⟨h1, h2⟩ := ev_ok hS hy
     obtain ⟨h3, h4⟩ := evP_ok hS r l' hl
     refine ⟨by simp [h1, h3], ?_⟩
     intro p hp
     rcases List.mem_cons.1 hp with rfl | hp
     . exact h2
     . exact h4 p hp
   . cases h

theorem assertV_ok {C : Ctx T} {t xt asserted : TypeId} {x inner : SV T} {ok : Bool} {c : SV T -> VCT} {I : Nat -> Prop} {w : World} (hx : x.toV = .iface t inner.toV) (hv : x.valid I w) (hi : inner.valid I w)
   (h : (assertV C t x inner asserted ok c).den) : ∃ y, (c y).den /\ y.valid I w /\ (Instr.typeAssert x.toV xt asserted ok).run C.P w = .ok y.toV w := by
 unfold assertV at h
 have key : ∀ (b : Bool), assertsB C.P t asserted = some b -> (b = true -> ∀ (v : Value) ok, (Instr.typeAssert (.iface t v) xt asserted ok).run C.P w = .ok (if ok then .tuple #[if isIfaceT C.P asserted then .iface t v else v, .bool true] else if isIfaceT C.P asserted then .iface t v else v) w) /\
     (b = false -> ∀ (v z : Value), (C.P.info? asserted).bind (·.zero) = some z -> (Instr.typeAssert (.iface t v) xt asserted true).run C.P w = .ok (.tuple #[z, .bool false]) w) := by
   intro b hb
   unfold assertsB at hb
   split at hb
   . rename_i vs hvs
     have hrun := prun_run _ _ w hvs
     have hzero : ∀ z, (C.P.info? asserted).bind (·.zero) = some z -> (zeroValue asserted).run C.P w = .ok z w := by
       intro z hz
       cases hi : C.P.info? asserted with
       | none => rw [hi] at hz; cases hz
       | some i => rw [hi] at hz; simp only [Option.bind_some] at hz; simp [zeroValue, typeInfo, hi, hz]
     unfold Instr.typeAssert at hrun ⊢
     cases hd : C.P.underlying asserted with
     | none => simp [underlying, hd] at hrun
     | some d =>
       simp only [Sem.run_bind, run_underlying hd, Result.andThen_ok] at hrun ⊢
       cases d with
       | interface want =>
         have hif : isIfaceT C.P asserted = true := by unfold isIfaceT; rw [hd]
         simp only [hif, if_true]
         cases hti : C.P.info? t with
         | none => simp [typeInfo, hti] at hrun
         | some i =>
           simp only [typeInfo, Sem.run_bind, run_program, Result.andThen_ok, hti, Sem.run_pure] at hrun ⊢
           cases hm : Instr.missingMethod want i.methods with
           | none =>
             simp only [hm, Sem.run_pure, if_true, Result.ok.injEq, Value.tuple.injEq, and_true] at hrun
             subst hrun
             have : b = true := by simpa using hb.symm
             subst this
             refine ⟨fun _ v ok => ?_, (fun h => by cases h)⟩
             cases ok <;> rfl
           | some m =>
             simp only [hm, if_true] at hrun ⊢
             have hb' : b = false := by
               cases hz : (zeroValue asserted).run C.P w with
               | ok z w' =>
                 simp only [Sem.run_bind, hz, Result.andThen_ok, Sem.run_pure, Result.ok.injEq, Value.tuple.injEq] at hrun
                 rw [<- hrun.1] at hb
                 simpa using hb.symm
               | halt => simp [hz] at hrun
             subst hb'
             refine ⟨(fun h => by cases h), fun _ v z hz => ?_⟩
             simp only [Sem.run_bind, hzero z hz, Result.andThen_ok, Sem.run_pure]
       | _ =>
         have hif : isIfaceT C.P asserted = false := by unfold isIfaceT; rw [hd]
         simp only [hif, Bool.false_eq_true, if_false] at hrun ⊢
         by_cases ht : t = asserted
         . simp only [if_pos ht, Sem.run_pure, if_true, Result.ok.injEq, Value.tuple.injEq, and_true] at hrun
           subst hrun
           have : b = true := by simpa using hb.symm
           subst this
           refine ⟨fun _ v ok => ?_, (fun h => by cases h)⟩
           simp only [if_pos ht]
           cases ok <;> rfl
         . simp only [if_neg ht, if_true] at hrun ⊢
           have hb' : b = false := by
             cases hz : (zeroValue asserted).run C.P w with
             | ok z w' =>
               simp only [Sem.run_bind, hz, Result.andThen_ok, Sem.run_pure, Result.ok.injEq, Value.tuple.injEq] at hrun
               rw [<- hrun.1] at hb
               simpa using hb.symm
             | halt => simp [hz] at hrun
           subst hb'
           refine ⟨(fun h => by cases h), fun _ v z hz => ?_⟩
           simp only [Sem.run_bind, hzero z hz, Result.andThen_ok, Sem.run_pure]
   . cases hb
 rw [hx]
 split at h
 . rename_i hb
   refine ⟨_, h, ?_, ?_⟩
   . cases ok
     . simp only [Bool.false_eq_true, if_false]; split <;> assumption
     . simp only [if_true]; exact ⟨by split <;> assumption, rfl, trivial⟩
   . rw [(key true hb).1 rfl]
     cases ok
     . simp only [Bool.false_eq_true, if_false]; split <;> simp [hx]
     . simp only [if_true, SV.toV, SV.toVL]; split <;> simp [hx]
 . rename_i hb
   split at h
   . rename_i hok
     split at h
     . rename_i z hz
       split at h
       . rename_i h1
         refine ⟨_, h, ⟨h1, rfl, trivial⟩, ?_⟩
         rw [hok, (key false hb).2 rfl _ z hz]; rfl
       . exact h.elim
     . exact h.elim
   . exact h.elim
 . exact h.elim

theorem builtin_exec (ρ : Operand -> Value) (o : Oper) (b : Builtin) (args : Array Operand) (ts : Array TypeId) (ho : o.op = .call { callee := .builtin b, args := args, argTypes := ts }) (P : Program) (w : World) :
   (execOp ρ o).run P w = (builtin b ts o.type (args.map fun | .const _ => true | _ => false) (args.map ρ)).run P w := by
 unfold execOp
 simp only [ho, resolve, invoke]
 rfl

theorem len_ok {C : Ctx T} {o : Oper} {S : St T} {c : SV T -> VCT} {a : Act} {w : World} {args : Array Operand} {ts : Array TypeId} (hS : FrOK S a (Owns S.H) w) (ho : o.op = .call { callee := .builtin .len, args := args, argTypes := ts })
   (h : (stx C o S c).den) : Gives C o S a w c := by
 unfold stx at h
 rw [ho] at h
 simp only at h
 split at h
 . rename_i x t hx ht
   have hargs : args = #[x] := by apply Array.ext'; simpa using hx
   have hts : ts = #[t] := by apply Array.ext'; simpa using ht
   subst hargs hts
   split at h
   . rename_i e y hd hy
     obtain ⟨h1, h2⟩ := ev_ok hS hy
     split at h
     . rename_i n hn
       refine ⟨_, h, rfl, ?_⟩
       rw [builtin_exec _ _ _ _ _ ho]
       have hlen : ∃ A cap, y.toV = .slice A n cap := by
         unfold lenSV at hn
         split at hn
         all_goals first | (cases hn; done) | skip
         all_goals (simp only [Option.some.injEq] at hn; subst hn)
         . exact ⟨_, _, rfl⟩
         . obtain ⟨A, cap, rfl⟩ := h2; exact ⟨_, _, rfl⟩
         . obtain ⟨A, h3⟩ := ovOK.slice h2; exact ⟨_, _, h3⟩
         . obtain ⟨A, cap, rfl⟩ := h2; exact ⟨_, _, rfl⟩
         . obtain ⟨A, cap, rfl, _⟩ := h2; exact ⟨_, _, rfl⟩
         . exact ⟨_, _, rfl⟩
       obtain ⟨A, cap, hv⟩ := hlen
       simp [builtin, Builtin.len_, h1, hv, run_underlying hd, SV.toV, goInt]
     . exact h.elim
   . rename_i n e hd
     refine ⟨_, h, rfl, ?_⟩
     rw [builtin_exec _ _ _ _ _ ho]
     simp [builtin, Builtin.len_, run_underlying hd, SV.toV, goInt]
   . rename_i e hd
     split at h
     . rename_i n e' hd'
       refine ⟨_, h, rfl, ?_⟩
       rw [builtin_exec _ _ _ _ _ ho]
       simp [builtin, Builtin.len_, run_underlying hd, run_underlying hd', SV.toV, goInt]
     . exact h.elim
   . exact generic_ok hS (by rw [ho]; intro cs b h; cases h) h
 . exact h.elim
end Go.Vg
/-
 The generator's soundness, part 6: every operation that leaves memory alone.
-/
set_option linter.unusedVariables false
namespace Go.Vg
variable {T : Tys}

theorem br_split {t : Bool} {a b : VCT} (h : (VCT.br t a b).den) : (t = true -> a.den) /\ (t = false -> b.den) := by
 cases t
 . exact ⟨fun h => (by cases h), fun _ => h⟩
 . exact ⟨fun _ => h, fun h => (by cases h)⟩

theorem execOp_bin (ρ : Operand -> Value) (o : Oper) (op : BinOp) (xt yt : TypeId) (x y : Operand) (ho : o.op = .binOp op xt x y yt) (P : Program) (w : World) {v : Value}
   (hg : (eqGuard op xt x y (ρ x) (ρ y)).run P w = .ok () w) (hb : (binOp op xt (ρ x) (ρ y)).run P w = .ok v w) : (execOp ρ o).run P w = .ok (.value v) w := by
 unfold execOp
 simp only [ho, Sem.run_bind, hg, hb, Result.andThen_ok, Sem.run_pure]

theorem int_guard {P : Program} {w : World} (op : BinOp) (t : TypeId) (x y : Operand) (k k' : IntKind) (p q : Int) : (eqGuard op t x y (.int k p) (.int k' q)).run P w = .ok () w :=
 eqGuard_plain op t x y (fun h => by cases h) (fun _ _ h => by cases h)

theorem part_row {cc : Bool} {P : Program} {w : World} {I : Nat -> Prop} {t e : TypeId} {l : List (T.El e)} {i : Nat} {k : SV T -> VCT} (hs : sizeT P t = some (szE T e)) (h : (elemK cc P t e l i 0 k).den) :
   ∃ y, (k y).den /\ y.valid I w /\ (part t (l.flatMap (T.enc e).enc).toArray (i * szE T e)).run P w = .ok y.toV w := by
 obtain ⟨li, hy, hi, h⟩ := elemK_den h
 have hx : ((T.enc e).enc li).length = szE T e := (T.enc e).len _
 split at h
 . rename_i z hz
   refine ⟨z, h, ?_⟩
   unfold readE at hz
   unfold part
   split at hz
   . rename_i n ha hn
     rw [hs] at hn
     simp only [Option.some.injEq] at hn; subst hn
     split at hz
     . simp only [Option.some.injEq] at hz; subst hz
       refine ⟨validL_cs _ (fun v hv => (T.enc e).one _ v (List.mem_of_mem_drop (List.mem_of_mem_take hv))), ?_⟩
       simp only [Sem.run_bind, isAggT_run ha, Result.andThen_ok, if_true, sizeT_run hs, Sem.run_pure, SV.toV, cellsL_cs]
       congr 2
       apply Array.ext'
       simp only [Array.toList_extract, List.extract_eq_take_drop, Nat.add_sub_cancel_left, List.drop_zero]
       rw [List.take_of_length_le (l := (T.enc e).enc li) (by omega)]
       apply List.ext_getElem?
       intro j
       rw [List.getElem?_take, List.getElem?_drop]
       split
       . exact flat_get e l i j _ hy (by assumption)
       . rw [List.getElem?_eq_none (by omega)]
     . cases hz
   . rename_i ha
     simp only [Option.map_eq_some_iff] at hz
     obtain ⟨v, hv, rfl⟩ := hz
     have h0 : 0 < szE T e := by
       rcases Nat.eq_zero_or_pos (szE T e) with h0 | h0
       . rw [List.getElem?_eq_none (by omega)] at hv; cases hv
       . exact h0
     refine ⟨(cellS_ok v ((T.enc e).one _ v (List.mem_of_getElem? hv))).2, ?_⟩
     have := flat_get e l i 0 _ hy h0
     rw [Nat.add_zero, hv] at this
     simp only [Sem.run_bind, isAggT_run ha, Result.andThen_ok]
     simp [this, cellS_toV]
   . cases hz
 . exact h.elim
theorem convert_ro {P : Program} {I : Nat -> Prop} {w : World} {src dst e : TypeId} {v : Value} {l : List (T.El e)} (hs : P.underlying src = some (.slice e)) (hd : P.underlying dst = some .string) (he : P.underlying e = some (.int .u8)) (h1 : szE T e = 1)
   (h : roOK I w e v l) (hb : isBytes (l.flatMap (T.enc e).enc)) : (convert src dst v).run P w = .ok (.string (strOf (l.flatMap (T.enc e).enc))) w := by
 have key : ∀ (vs : List Value), isBytes vs -> ∃ ns : List Int, vs = ns.map (Value.int .u8) /\ vs.map byteOf = ns.map fun n => UInt8.ofNat n.toNat := by
   intro vs
   induction vs with
   | nil => intro _; exact ⟨[], rfl, rfl⟩
   | cons v r ih =>
     intro hv
     obtain ⟨n, rfl⟩ := hv v List.mem_cons_self
     obtain ⟨ns, h1, h2⟩ := ih (fun u hu => hv u (List.mem_cons_of_mem _ hu))
     exact ⟨n :: ns, by rw [h1]; rfl, by rw [List.map_cons, List.map_cons, h2]; rfl⟩
 obtain ⟨ns, h2, h3⟩ := key _ hb
 obtain ⟨A, c, rfl, hlc, hcm, hro⟩ := h
 cases A with
 | none =>
   have hl : l = [] := by
     cases l with
     | nil => rfl
     | cons x r =>
       obtain ⟨ad, h4, _⟩ := hro (by simp)
       cases h4
   subst hl
   rw [List.length_nil, run_convert_bytes_string w src dst e none 0 c hs he hd]
   simp [Conv.bytesToString, strOf]
   rfl
 | some ad =>
   have hc : ∀ j u, (l.flatMap (T.enc e).enc)[j]? = some u -> w.cell? (ad.add j) = some u := fun j u hu => by
     rcases Nat.eq_zero_or_pos l.length with h0 | h0
     . rw [List.eq_nil_of_length_eq_zero h0] at hu; simp at hu
     . obtain ⟨ad', hA, _, _, h5⟩ := hro h0
       cases hA
       exact h5 j u hu
   have hl := run_loadCells_list (P := P) w ad (l.flatMap (T.enc e).enc) hc
   rw [enc_flat_length, h1, Nat.mul_one] at hl
   rw [h2] at hl
   rw [run_convert_bytes_string w src dst e (some ad) l.length c hs he hd, run_bytesToString w ad l.length c ns hl, foldl_push_bytes]
   unfold strOf
   rw [h3]
   simp [ByteArray.empty, ByteArray.emptyWithCapacity]
   rfl
theorem nilAhead_ok {P : Program} {t : TypeId} {name : String} (h : nilOK P t name = true) (a : Addr) (fuel : Nat) (w : World) : (nilAhead (fuel + 1) t (.pointer (some a)) name).run P w = .ok (some false) w := by
 unfold nilOK at h
 split at h
 . rename_i i d hi hd
   split at h
   . rename_i m hm
     simp only [Bool.and_eq_true] at h
     obtain ⟨h1, h2⟩ := h
     have hp : m.path = #[] := by simpa using h1
     obtain ⟨⟨f, b⟩, hf⟩ := Option.isSome_iff_exists.mp h2
     unfold nilAhead
     simp only [typeInfo, Sem.run_bind, run_program, Result.andThen_ok, hi, Sem.run_pure, hm, hp, followBlind, hf]
     cases b with
     | true => rfl
     | false =>
       simp only [Sem.run_bind, run_underlying hd, Result.andThen_ok]
       cases d <;> rfl
   . cases h
 . cases h


theorem nilK_den {C : Ctx T} {S : St T} {u : SV T} {k : VCT} {w : World} (hH : HOK C S.H w) (hu : u.valid (Owns S.H) w) (h : (nilK S u k).den) : k.den := by
 unfold nilK at h
 split at h
 . rename_i hh e0 x lo hi v
   split at h
   . rename_i x' e l he
     refine h fun hx hlo hl => ?_
     subst hx hlo
     have hok := ent_ok hH hh
     rw [he] at hok
     obtain ⟨A, n, cap, hxs, hv | ⟨_, _, h3, _⟩⟩ := hu
     . obtain ⟨h1, h2⟩ := hok
       rcases h2 with ⟨_, h2⟩ | ⟨g, cap', cur, hv2, _⟩
       . omega
       . rw [hv, hv2]
         simp only [sliceVal]
         split <;> rfl
     . omega
   . exact h
 . exact h
theorem stx_ok {C : Ctx T} (hz : ZOK C) {o : Oper} {S : St T} {c : SV T -> VCT} {a : Act} {w : World} (hS : FrOK S a (Owns S.H) w) (hH : HOK C S.H w) (h : (stx C o S c).den) : Gives C o S a w c := by
 have hsel : ∀ {cs b}, o.op = .select cs b -> False := by
   intro cs b hop
   unfold stx at h
   rw [hop] at h
   exact h
 have hsel' : ∀ cs b, o.op ≠ .select cs b := fun cs b hop => hsel hop
 have h0 := h
 unfold stx at h
 split at h
 . -- move
   rename_i x hop
   split at h
   . rename_i y hy
     obtain ⟨h1, h2⟩ := ev_ok hS hy
     exact ⟨y, h, h2, by unfold execOp; simp only [hop, h1]; rfl⟩
   . exact h.elim
 . rename_i x hop
   split at h
   . rename_i y hy
     obtain ⟨h1, h2⟩ := ev_ok hS hy
     exact ⟨y, h, h2, by unfold execOp; simp only [hop, h1]; rfl⟩
   . exact h.elim
 . -- pick
   rename_i b x y hop
   split at h
   . rename_i t hb
     have h1 := (ev_ok hS hb).1
     obtain ⟨ha, hb'⟩ := br_split h
     cases t
     . have h := hb' rfl
       split at h
       . rename_i u hu
         obtain ⟨h3, h4⟩ := ev_ok hS hu
         refine ⟨u, h, h4, ?_⟩
         unfold execOp
         simp only [hop, h1, SV.toV, asBool, Sem.run_bind, Sem.run_pure, Result.andThen_ok, h3]; rfl
       . exact h.elim
     . have h := ha rfl
       split at h
       . rename_i u hu
         obtain ⟨h3, h4⟩ := ev_ok hS hu
         refine ⟨u, h, h4, ?_⟩
         unfold execOp
         simp only [hop, h1, SV.toV, asBool, Sem.run_bind, Sem.run_pure, Result.andThen_ok, h3]; rfl
       . exact h.elim
   . exact h.elim
 . -- nilCheck
   rename_i x hop
   split at h
   . rename_i hh b o' hx
     obtain ⟨h1, h2⟩ := ev_ok hS hx
     exact ⟨_, h, trivial, by unfold execOp; simp only [hop, h1, SV.toV]; rfl⟩
   . rename_i t y hx
     obtain ⟨h1, h2⟩ := ev_ok hS hx
     exact ⟨_, h, h2, by unfold execOp; simp only [hop, h1, SV.toV]; rfl⟩
   . rename_i hh e v i f hx
     obtain ⟨h1, h2⟩ := ev_ok hS hx
     split at h
     . rename_i v' e' l he
       have hok := ent_ok hH hh
       rw [he] at hok
       split at h
       . rename_i hee
         subst hee
         obtain ⟨⟨rfl, hi⟩, h⟩ := h
         obtain ⟨g, cap, rfl, _, _, _⟩ := own_cells hok (by omega)
         exact ⟨_, h, trivial, by unfold execOp; simp only [hop, h1, SV.toV, addrOf]; rfl⟩
       . exact h.elim
     . exact h.elim
   . rename_i e v l i f hx
     obtain ⟨h1, h2⟩ := ev_ok hS hx
     obtain ⟨hi, h⟩ := factB_den h
     have h2' := h2
     obtain ⟨A, cap, rfl, _, _, hro⟩ := h2
     obtain ⟨ad, rfl, _⟩ := hro (by omega)
     exact ⟨_, h, h2', by unfold execOp; simp only [hop, h1, SV.toV, addrOf]; rfl⟩
   . rename_i g p q hx
     obtain ⟨h1, h2⟩ := ev_ok hS hx
     exact ⟨_, h, h2, by unfold execOp; simp only [hop, h1, SV.toV]; rfl⟩
   . rename_i nm t hh b o' q hx
     obtain ⟨h1, h2⟩ := ev_ok hS hx
     split at h
     . rename_i hok
       refine ⟨_, h, h2, ?_⟩
       unfold execOp
       simp only [hop, h1, SV.toV, SV.toVL]
       simp only [List.size_toArray, List.length_cons, List.length_nil, Nat.zero_add, Nat.lt_add_one, getElem?_pos, List.getElem_toArray, List.getElem_cons_zero]
       simp only [Sem.run_bind, run_program, Result.andThen_ok]
       rw [show C.P.types.size + Made.depth = (C.P.types.size + (Made.depth - 1)) + 1 from rfl, nilAhead_ok hok]
       rfl
     . exact h.elim
   . exact generic_ok hS hsel' h
 . -- fieldAddr
   rename_i st x i hop
   split at h
   . rename_i f hf
     split at h
     . rename_i n hn
       split at h
       . exact h.elim
       . rename_i hn0
         split at h
         . rename_i hh b o' hx
           obtain ⟨h1, h2⟩ := ev_ok hS hx
           refine ⟨_, h, trivial, ?_⟩
           unfold execOp
           simp only [hop, h1, SV.toV]
           rw [<- off_add]
           exact lift_val (fieldAt_ok hf hn hn0 _)
         . rename_i hh e v ii fl hx
           obtain ⟨h1, h2⟩ := ev_ok hS hx
           split at h
           . rename_i v' e' l he
             have hok := ent_ok hH hh
             rw [he] at hok
             split at h
             . rename_i hee
               subst hee
               obtain ⟨⟨rfl, hi⟩, h⟩ := h
               obtain ⟨g, cap, rfl, _, _, _⟩ := own_cells hok (by omega)
               refine ⟨_, h, trivial, ?_⟩
               unfold execOp
               simp only [hop, h1, SV.toV, addrOf]
               have hfa := fieldAt_ok (w := w) hf hn hn0 ((⟨g, 0, none⟩ : Addr).add (ii * (T.enc e).sz + fl))
               rw [addr_add_add, Nat.add_assoc] at hfa
               exact lift_val hfa
             . exact h.elim
           . exact h.elim
         . rename_i e v l ii fl hx
           obtain ⟨h1, h2⟩ := ev_ok hS hx
           obtain ⟨hi, h⟩ := factB_den h
           have h2' := h2
           obtain ⟨A, cap, rfl, _, _, hro⟩ := h2
           obtain ⟨ad, rfl, _⟩ := hro (by omega)
           refine ⟨_, h, h2', ?_⟩
           unfold execOp
           simp only [hop, h1, SV.toV, addrOf]
           have hfa := fieldAt_ok (w := w) hf hn hn0 (ad.add (ii * (T.enc e).sz + fl))
           rw [addr_add_add, Nat.add_assoc] at hfa
           exact lift_val hfa
         . exact h.elim
     . exact h.elim
   . exact h.elim
 . -- load
   rename_i t x hop
   split at h
   . rename_i y hy
     obtain ⟨h1, h2⟩ := ev_ok hS hy
     obtain ⟨z, hz1, hz2, hz3⟩ := ptrLoad_ok hH h2 h
     refine ⟨z, hz1, hz2, ?_⟩
     unfold execOp
     simp only [hop, h1]
     exact lift_val hz3
   . exact h.elim
 . -- binOp
   rename_i op xt x y yt hop
   split at h
   . rename_i k p k' q hx hy
     have h1 := (ev_ok hS hx).1
     have h2 := (ev_ok hS hy).1
     simp only [SV.toV] at h1 h2
     split at h
     . obtain ⟨hq, h⟩ := factB_den h
       refine ⟨_, h, rfl, execOp_bin _ _ _ _ _ _ _ hop _ _ (by rw [h1, h2]; exact int_guard _ _ _ _ _ _ _ _) ?_⟩
       rw [h1, h2]
       simp only [binOp, Op.shift]
       rw [if_neg (by omega)]; rfl
     . obtain ⟨hq, h⟩ := factB_den h
       refine ⟨_, h, rfl, execOp_bin _ _ _ _ _ _ _ hop _ _ (by rw [h1, h2]; exact int_guard _ _ _ _ _ _ _ _) ?_⟩
       rw [h1, h2]
       simp only [binOp, Op.shift]
       rw [if_neg (by omega)]; rfl
     . rename_i hs1 hs2
       split at h
       . rename_i hk
         subst hk
         obtain ⟨z, hz1, hz2, hz3⟩ := binInt_ok (C := C) (xt := xt) (I := Owns S.H) (w := w) ⟨hs1, hs2⟩ h
         exact ⟨z, hz1, hz2, execOp_bin _ _ _ _ _ _ _ hop _ _ (by rw [h1, h2]; exact int_guard _ _ _ _ _ _ _ _) (by rw [h1, h2]; exact hz3)⟩
       . exact h.elim
   . rename_i t0 a0 t1 b0 hx hy
     have h1 := (ev_ok hS hx).1
     have h2 := (ev_ok hS hy).1
     simp only [SV.toV] at h1 h2
     split at h
     . rename_i hte
       obtain ⟨rfl, hte⟩ := hte
       split at h
       . obtain ⟨rfl, h⟩ := h
         obtain ⟨e1, e2, e3⟩ := ptrEq_ok (C := C) (a := a0) hte w x y .eql
         exact ⟨_, h, rfl, execOp_bin _ _ _ _ _ _ _ hop _ _ (by rw [h1, h2]; exact e1) (by rw [h1, h2]; exact e2)⟩
       . obtain ⟨rfl, h⟩ := h
         obtain ⟨e1, e2, e3⟩ := ptrEq_ok (C := C) (a := a0) hte w x y .neq
         exact ⟨_, h, rfl, execOp_bin _ _ _ _ _ _ _ hop _ _ (by rw [h1, h2]; exact e1) (by rw [h1, h2]; exact e3)⟩
       . exact h.elim
     . exact generic_ok hS hsel' h
   . exact generic_ok hS hsel' h
   . rename_i u v _ _ _ hx hy
     have h1 := (ev_ok hS hx).1
     have h2 := (ev_ok hS hy).1
     split at h
     . rename_i hnf
       obtain ⟨e1, e2, e3⟩ := nilFits_ok hnf w x y op
       split at h
       . exact ⟨_, h, rfl, execOp_bin _ _ _ _ _ _ _ hop _ _ (by rw [h1, h2]; exact e1) (by rw [h1, h2]; exact e2)⟩
       . exact ⟨_, h, rfl, execOp_bin _ _ _ _ _ _ _ hop _ _ (by rw [h1, h2]; exact e1) (by rw [h1, h2]; exact e3)⟩
       . exact h.elim
     . split at h
       . rename_i hnf
         obtain ⟨e1, e2, e3⟩ := nilSl_ok hnf (ev_ok hS hx).2 x y op
         replace h := nilK_den hH (ev_ok hS hx).2 h
         split at h
         . exact ⟨_, h, rfl, execOp_bin _ _ _ _ _ _ _ hop _ _ (by rw [h1, h2]; exact e1) (by rw [h1, h2]; exact e2)⟩
         . exact ⟨_, h, rfl, execOp_bin _ _ _ _ _ _ _ hop _ _ (by rw [h1, h2]; exact e1) (by rw [h1, h2]; exact e3)⟩
         . exact h.elim
       . exact h.elim
   . exact h.elim
 . -- unOp
   rename_i op xt x hop
   split at h
   . rename_i k p hx
     have h1 := (ev_ok hS hx).1
     simp only [SV.toV] at h1
     split at h
     . obtain ⟨z, hz1, hz2, hz3⟩ := arith_ok (I := Owns S.H) (w := w) h
       refine ⟨z, hz1, hz2, ?_⟩
       unfold execOp
       simp only [hop, h1]
       refine lift_val ?_
       rw [hz3]; simp [Op.unary, Op.intArith]
     . refine ⟨_, h, rfl, ?_⟩
       unfold execOp
       simp only [hop, h1]
       refine lift_val ?_
       simp [Op.unary, Op.intBits, SV.toV, bitI]
     . exact h.elim
   . rename_i b hx
     have h1 := (ev_ok hS hx).1
     simp only [SV.toV] at h1
     split at h
     . refine ⟨_, h, rfl, ?_⟩
       unfold execOp
       simp only [hop, h1]
       exact lift_val rfl
     . exact h.elim
   . exact h.elim
 . -- convert
   rename_i src dst x hop
   split at h
   . rename_i k n hx
     have h1 := (ev_ok hS hx).1
     simp only [SV.toV] at h1
     have key : ∀ d k', C.P.underlying src = some d -> C.P.underlying dst = some (.int k') -> (convert src dst (.int k n)).run C.P w = .ok (.int k' (k'.wrap n)) w := by
       intro d k' hs hd
       unfold convert
       simp only [Sem.run_bind, run_underlying hs, run_underlying hd, Result.andThen_ok]
       rfl
     split at h
     . rename_i d hs hd
       obtain ⟨⟨g1, g2⟩, h⟩ := factB_den h
       refine ⟨_, h, rfl, ?_⟩
       unfold execOp
       simp only [hop, h1]
       refine lift_val ?_
       rw [key _ _ hs hd]
       have : IntKind.i64.wrap n = n := by
         simp only [IntKind.wrap, IntKind.bits, IntKind.signed, Bool.true_and]
         split <;> (rename_i h3; simp at h3; omega)
       rw [this]; rfl
     . rename_i d k' _ hs hd
       refine ⟨_, h, rfl, ?_⟩
       unfold execOp
       simp only [hop, h1]
       exact lift_val (key _ _ hs hd)
     . exact h.elim
   . rename_i v m hx
     obtain ⟨h1, h2⟩ := ev_ok hS hx
     simp only [SV.toV] at h1
     unfold convW at h
     split at h
     . rename_i e hs hd
       split at h
       . rename_i rel he hrel
         split at h
         . rename_i hsz
           obtain ⟨l, hl, h⟩ := h
           have hro := isRo_ok hH hrel hl
           obtain ⟨A', cap', hv'⟩ := h2
           have hm : m = l.length := by obtain ⟨A, cap, hv, _⟩ := hro; rw [hv'] at hv; cases hv; rfl
           obtain ⟨hb, h⟩ := h hm
           refine ⟨_, h, rfl, ?_⟩
           unfold execOp
           simp only [hop, h1]
           exact lift_val (convert_ro hs hd he hsz hro hb)
         . exact h.elim
       . exact h.elim
     . exact h.elim
   . exact generic_ok hS hsel' h
 . -- makeInterface
   rename_i t x hop
   have key : ∀ d, C.P.underlying t = some d -> (∀ ms, d ≠ .interface ms) -> ∀ v, (Instr.makeInterface t v).run C.P w = .ok (.iface t v) w := by
     intro d hd hne v
     unfold Instr.makeInterface
     simp only [Sem.run_bind, run_underlying hd, Result.andThen_ok]
     cases d <;> first | rfl | exact absurd rfl (hne _)
   split at h
   . exact h.elim
   . rename_i d y hne hd hy
     obtain ⟨h1, h2⟩ := ev_ok hS hy
     refine ⟨_, h, rfl, ?_⟩
     unfold execOp
     simp only [hop, h1]
     exact lift_val (key d hd (fun ms hm => by subst hm; exact hne ms rfl) _)
   . rename_i d y hne hnv hd hy
     obtain ⟨h1, h2⟩ := ev_ok hS hy
     refine ⟨_, h, h2, ?_⟩
     unfold execOp
     simp only [hop, h1]
     exact lift_val (key d hd (fun ms hm => by subst hm; exact hne ms rfl) _)
   . exact h.elim
 . -- makeFunc
   rename_i fn p q hop
   split at h
   . rename_i x y hx hy
     obtain ⟨h1, h2⟩ := evL_ok hS _ _ hx
     obtain ⟨h3, h4⟩ := evL_ok hS _ _ hy
     refine ⟨_, h, ⟨h2, h4⟩, ?_⟩
     unfold execOp
     simp only [hop]
     refine lift_val ?_
     simp only [Instr.makeFunc, SV.toV, <- h1, <- h3, Sem.run_pure]
     congr 2 <;> (apply Array.ext'; simp)
   . exact h.elim
 . -- extract
   rename_i x i hop
   split at h
   . rename_i xs hx
     obtain ⟨h1, h2⟩ := ev_ok hS hx
     split at h
     . rename_i y hy
       have key : ∀ (xs : List (SV T)) (i : Nat) y, SV.validL (Owns S.H) w xs -> xs[i]? = some y -> (SV.toVL xs)[i]? = some y.toV /\ y.valid (Owns S.H) w := by
         intro xs
         induction xs with
         | nil => intro i y _ h; simp at h
         | cons z r ih =>
           intro i y hv h
           cases i with
           | zero => simp at h; subst h; exact ⟨by simp [SV.toVL], hv.1⟩
           | succ i => simp at h; have := ih i y hv.2 h; exact ⟨by simpa [SV.toVL] using this.1, this.2⟩
       obtain ⟨h3, h4⟩ := key xs i y h2 hy
       refine ⟨_, h, h4, ?_⟩
       unfold execOp
       simp only [hop, h1, SV.toV]
       refine lift_val ?_
       simp [Instr.extract, h3]
     . exact h.elim
   . exact generic_ok hS hsel' h
 . -- field
   rename_i t x i hop
   split at h
   . rename_i segs hx
     obtain ⟨h1, h2⟩ := ev_ok hS hx
     split at h
     . rename_i f hf
       split at h
       . rename_i y hy
         obtain ⟨h3, h4⟩ := fieldS_ok hf h2 hy
         refine ⟨_, h, h4, ?_⟩
         unfold execOp
         simp only [hop, h1, SV.toV]
         exact lift_val h3
       . exact h.elim
     . exact h.elim
   . exact generic_ok hS hsel' h
 . -- build
   rename_i t ps hop
   split at h
   . rename_i l z hl hzt
     obtain ⟨h1, h2⟩ := evP_ok hS _ _ hl
     obtain ⟨zv, hz1, hz2⟩ := zero_run hz hzt w
     have hzv := (hz t z hzt).2 (Owns S.H) w
     have hparts : ((ps.map fun (i, x) => (i, a.eval x)) : Array (Nat × Value)).toList = l.map fun p => (p.1, p.2.toV) := by
       rw [<- h1]; simp
     split at h
     . rename_i fs hd
       split at h
       . rename_i places hpl
         split at h
         . rename_i segs hb
           obtain ⟨h3, h4⟩ := buildS_ok places l z segs hzv h2 hb
           refine ⟨_, h, h4, ?_⟩
           unfold execOp
           simp only [hop]
           refine lift_val ?_
           unfold Instr.build
           simp [hz1, run_underlying hd, Array.mapM_eq_mapM_toList, run_places w _ _ hpl, hz2, SV.toV]
           rw [h1, h3]; rfl
         . exact h.elim
       . exact h.elim
     . rename_i e n hd
       split at h
       . rename_i sz hsz
         split at h
         . rename_i segs hb
           obtain ⟨h3, h4⟩ := buildA_ok sz l z segs hzv h2 hb
           refine ⟨_, h, h4, ?_⟩
           unfold execOp
           simp only [hop]
           refine lift_val ?_
           unfold Instr.build
           simp only [Sem.run_bind, hz1, Result.andThen_ok, run_underlying hd, sizeT_run hsz, hz2, hparts, h3]
           rfl
         . exact h.elim
       . exact h.elim
     . exact h.elim
   . exact h.elim
 . -- indexAddr
   rename_i t x i hop
   split at h
   . rename_i y n hx hi
     obtain ⟨h1, h2⟩ := ev_ok hS hx
     obtain ⟨k, hk⟩ := idxInt_ok hS hi
     obtain ⟨y', h, hy'⟩ := viewK_den h
     have hv : y'.toV = y.toV /\ y'.valid (Owns S.H) w := by
       rcases hy' with rfl | ⟨e1, _, _, _, _, _, _, _, rfl⟩
       . exact ⟨rfl, h2⟩
       . exact ⟨e1, trivial⟩
     obtain ⟨z, hz1, hz2, hz3⟩ := idxAddr_ok (k := k) hH hv.2 h
     refine ⟨z, hz1, hz2, ?_⟩
     unfold execOp
     simp only [hop, h1, hk]
     rw [hv.1] at hz3
     exact lift_val hz3
   . exact h.elim
 . -- index
   rename_i t x i hop
   split at h
   . rename_i e kk l n hx hi
     obtain ⟨h1, h2⟩ := ev_ok hS hx
     obtain ⟨k, hk⟩ := idxInt_ok hS hi
     split at h
     . rename_i len e' hd
       split at h
       . rename_i hsz
         obtain ⟨hn, h⟩ := factB_den h
         obtain ⟨z, hz1, hz2, hz3⟩ := part_row (w := w) (I := Owns S.H) hsz.1 h
         refine ⟨z, hz1, hz2, ?_⟩
         unfold execOp
         simp only [hop, h1, hk]
         refine lift_val ?_
         have hl : l.length = kk := h2.1
         have hlt : n < (len : Int) := by obtain ⟨_, _, h8, _⟩ := elemK_den h; rw [hsz.2]; omega
         unfold Instr.index
         simp only [Sem.run_bind, asIntOf, Sem.run_pure, Result.andThen_ok, run_underlying hd, SV.toV, Seg.cellsL, Seg.cells, List.append_nil, Sem.run_ite, sizeT_run hsz.1]
         rw [if_pos ⟨hn, hlt⟩]
         exact hz3
       . exact h.elim
     . exact h.elim
   . exact generic_ok hS hsel' h
 . -- slice
   rename_i t x lo hi mx hop
   split at h
   . rename_i y hx
     obtain ⟨h1, h2⟩ := ev_ok hS hx
     obtain ⟨z, hz1, hz2, hz3⟩ := slicing_ok hS hH h2 h
     refine ⟨z, hz1, hz2, ?_⟩
     unfold execOp
     simp only [hop, h1]
     exact lift_val hz3
   . exact h.elim
 . -- typeAssert
   rename_i x xt asserted ok hop
   split at h
   . rename_i t y hx
     obtain ⟨h1, h2⟩ := ev_ok hS hx
     obtain ⟨z, hz1, hz2, hz3⟩ := assertV_ok (x := .i t y) (inner := y) (xt := xt) (I := Owns S.H) (w := w) rfl h2 h2 h
     refine ⟨z, hz1, hz2, ?_⟩
     unfold execOp
     simp only [hop, h1]
     exact lift_val hz3
   . rename_i t y hx
     obtain ⟨h1, h2⟩ := ev_ok hS hx
     split at h
     . rename_i hy1
       obtain ⟨z, hz1, hz2, hz3⟩ := assertV_ok (x := .v (.iface t y)) (inner := .v y) (xt := xt) (I := Owns S.H) (w := w) rfl h2 hy1 h
       refine ⟨z, hz1, hz2, ?_⟩
       unfold execOp
       simp only [hop, h1]
       exact lift_val hz3
     . exact h.elim
   . exact generic_ok hS hsel' h
 . -- len
   rename_i args ts hop
   exact len_ok hS hop h0
 . -- cap
   rename_i args ts hop
   split at h
   . rename_i x t hx ht
     have hargs : args = #[x] := by apply Array.ext'; simpa using hx
     have hts : ts = #[t] := by apply Array.ext'; simpa using ht
     subst hargs hts
     split at h
     . rename_i e y hd hy
       obtain ⟨h1, h2⟩ := ev_ok hS hy
       split at h
       . rename_i n hn
         refine ⟨_, h, rfl, ?_⟩
         rw [builtin_exec _ _ _ _ _ hop]
         have hlen : ∃ A m, y.toV = .slice A m n := by
           unfold capSV at hn
           split at hn
           all_goals first | (cases hn; done) | skip
           all_goals (simp only [Option.some.injEq] at hn; subst hn)
           . exact ⟨_, _, rfl⟩
           . obtain ⟨A, cap, rfl⟩ := h2; exact ⟨_, _, rfl⟩
           . obtain ⟨A, h3⟩ := ovOK.slice h2; exact ⟨_, _, h3⟩
           . obtain ⟨A, cap, rfl⟩ := h2; exact ⟨_, _, rfl⟩
           . exact ⟨_, _, rfl⟩
         obtain ⟨A, m, hv⟩ := hlen
         simp [builtin, Builtin.cap_, h1, hv, run_underlying hd, SV.toV, goInt]
       . exact h.elim
     . exact generic_ok hS hsel' h
   . exact h.elim
 . -- max
   rename_i args ts hop
   split at h
   . rename_i x y hx
     have hargs : args = #[x, y] := by apply Array.ext'; simpa using hx
     subst hargs
     split at h
     . rename_i k p k' q hx hy
       have h1 := (ev_ok hS hx).1
       have h2 := (ev_ok hS hy).1
       simp only [SV.toV] at h1 h2
       split at h
       . refine ⟨_, h, rfl, ?_⟩
         rw [builtin_exec _ _ _ _ _ hop]
         simp [builtin, Builtin.max_, Builtin.max2, h1, h2, SV.toV, mxI]
       . exact h.elim
     . exact h.elim
   . exact h.elim
 . -- min
   rename_i args ts hop
   split at h
   . rename_i x y hx
     have hargs : args = #[x, y] := by apply Array.ext'; simpa using hx
     subst hargs
     split at h
     . rename_i k p k' q hx hy
       have h1 := (ev_ok hS hx).1
       have h2 := (ev_ok hS hy).1
       simp only [SV.toV] at h1 h2
       split at h
       . refine ⟨_, h, rfl, ?_⟩
         rw [builtin_exec _ _ _ _ _ hop]
         simp [builtin, Builtin.min_, Builtin.min2, h1, h2, SV.toV, mnI]
       . exact h.elim
     . exact h.elim
   . exact h.elim
 . exact h.elim
end Go.Vg
