/-
  A verification-condition generator over the model's code: symbolic values, symbolic memory, and the conditions under which a function's text does what is claimed (the definitions; the soundness stands in the next texts).
-/
import Derived.StillTail
import Derived.Calls
import Derived.Laws.AppendOwn
set_option linter.unusedVariables false
namespace Go.Vg

/-- How the elements of a row are laid in cells. -/
structure Enc (α : Type) where
  enc : α → List Value
  dec : List Value → Option α
  sz : Nat
  len : ∀ x, (enc x).length = sz
  one : ∀ x, ∀ v ∈ enc x, v.oneCell' = true
  dec_ok : ∀ l x, dec l = some x → enc x = l
/-- Of each element type: what its elements are, in Lean, and how they are laid. -/
structure Tys where
  El : TypeId → Type
  enc : (e : TypeId) → Enc (El e)

inductive Off where
  | lit (n : Nat)
  | el (base i sz fld : Nat)
def Off.val : Off → Nat
  | .lit n => n
  | .el b i s f => b + i * s + f
def Off.add : Off → Nat → Off
  | .lit n, k => .lit (n + k)
  | .el b i s f, k => .el b i s (f + k)

mutual
/-- A symbolic value: a plain value, or one that bears memory of the symbolic heap (h: the entry's place in it). -/
inductive SV (T : Tys) : Type where
  | un
  | v (x : Value)
  | p (h b : Nat) (o : Off)
  | s (h b : Nat) (e : TypeId) (base lo len cap : Nat)
  | o (h : Nat) (e : TypeId) (x : Value) (n : Nat)
  | ov (h : Nat) (e : TypeId) (x : Value) (lo hi : Nat)
  | q (h : Nat) (e : TypeId) (x : Value) (i fld : Nat)
  | ro (e : TypeId) (x : Value) (l : List (T.El e))
  | rq (e : TypeId) (x : Value) (l : List (T.El e)) (i fld : Nat)
  | i (t : TypeId) (x : SV T)
  | a (xs : List (Seg T))
  | t (xs : List (SV T))
  | f (fn : Fn) (first captured : List (SV T))
/-- A piece of a block: one cell, or a row of n elements. -/
inductive Seg (T : Tys) : Type where
  | c (x : SV T)
  | r (e : TypeId) (n : Nat) (l : List (T.El e))
end

def addrOf : Value → Nat → Option Addr
  | .slice (some a) _ _, k => some (a.add k)
  | _, _ => none
def sliceVal (x : Value) (lo hi sz : Nat) : Value := match x with
  | .slice A _ cap => .slice (if cap = lo then A else A.map (·.add (lo * sz))) (hi - lo) (cap - lo)
  | y => y
def capVal : Value → Nat
  | .slice _ _ c => c
  | _ => 0

variable {T : Tys}
mutual
def SV.toV : SV T → Value
  | .un => undef
  | .v x => x
  | .p _ b o => .pointer (some ⟨b, o.val, none⟩)
  | .s _ b e base lo len cap => .slice (some ⟨b, base + lo * (T.enc e).sz, none⟩) len cap
  | .o _ _ x _ => x
  | .ov _ e x lo hi => sliceVal x lo hi (T.enc e).sz
  | .q _ e x i fld => .pointer (addrOf x (i * (T.enc e).sz + fld))
  | .ro _ x _ => x
  | .rq e x _ i fld => .pointer (addrOf x (i * (T.enc e).sz + fld))
  | .i t x => .iface t x.toV
  | .a xs => .agg (Seg.cellsL xs).toArray
  | .t xs => .tuple (SV.toVL xs).toArray
  | .f fn fi ca => .func fn (SV.toVL fi).toArray (SV.toVL ca).toArray
def SV.toVL : List (SV T) → List Value
  | [] => []
  | x :: r => x.toV :: SV.toVL r
def Seg.cells : Seg T → List Value
  | .c x => [x.toV]
  | .r e _ l => l.flatMap (T.enc e).enc
def Seg.cellsL : List (Seg T) → List Value
  | [] => []
  | x :: r => x.cells ++ Seg.cellsL r
end

inductive Ent (T : Tys) : Type where
  | B (b : Nat) (ty : TypeId) (segs : List (Seg T))
  | O (x : Value) (e : TypeId) (l : List (T.El e))
  | F (m : Nat → Option Obj)
  | X

/-- Verification conditions. -/
inductive VCT : Type 1 where
  | leaf (p : Prop)
  | fact (p : Prop) (k : VCT)
  | asm (p : Prop) (k : VCT)
  | all (α : Type) (k : α → VCT)
  | ex (α : Type) (k : α → VCT)
  | br (t : Bool) (a b : VCT)
  | and (a b : VCT)
  | ff (why : String)
def Br (t : Bool) (a b : Prop) : Prop := match t with | true => a | false => b
def VCT.den : VCT → Prop
  | .leaf p => p
  | .fact p k => p ∧ k.den
  | .asm p k => p → k.den
  | .all _ k => ∀ x, (k x).den
  | .ex _ k => ∃ x, (k x).den
  | .br t a b => Br t a.den b.den
  | .and a b => a.den ∧ b.den
  | .ff _ => False

/-- A frame's slots: a tree over the bits of a slot's number. -/
inductive Fm (T : Tys) : Type where
  | l (x : Option (SV T))
  | n (a b : Fm T)
def Fm.get : Fm T → Nat → Option (SV T)
  | .l x, i => cond (Nat.beq i 0) x none
  | .n a b, i => cond (Nat.beq (Nat.mod i 2) 0) (a.get (Nat.div i 2)) (b.get (Nat.div i 2))
def Fm.set : Fm T → Nat → Option (SV T) → Fm T
  | .l y, i, x => cond (Nat.beq i 0) (.l x) (.l y)
  | .n a b, i, x => cond (Nat.beq (Nat.mod i 2) 0) (.n (a.set (Nat.div i 2) x) b) (.n a (b.set (Nat.div i 2) x))
def Fm.mk (T : Tys) : Nat → Fm T
  | 0 => .l none
  | d + 1 => .n (Fm.mk T d) (Fm.mk T d)
theorem Fm.get_set : ∀ (f : Fm T) (i j : Nat) (x : Option (SV T)) (y : SV T), (f.set i x).get j = some y → (i = j ∧ x = some y) ∨ (i ≠ j ∧ f.get j = some y)
  | .l z, i, j, x, y, h => by
    by_cases hi : i = 0
    · subst hi
      by_cases hj : j = 0
      · subst hj; exact .inl ⟨rfl, h⟩
      · have : Nat.beq j 0 = false := by cases j with | zero => exact absurd rfl hj | succ j => rfl
        simp only [Fm.set, cond, Fm.get, this] at h
        simp at h
    · have hb : Nat.beq i 0 = false := by cases i with | zero => exact absurd rfl hi | succ j => rfl
      simp only [Fm.set, hb, cond] at h
      by_cases hj : j = 0
      · subst hj; exact .inr ⟨hi, h⟩
      · have : Nat.beq j 0 = false := by cases j with | zero => exact absurd rfl hj | succ j => rfl
        simp only [Fm.get, this] at h
        simp at h
  | .n a b, i, j, x, y, h => by
    have hd : ∀ k : Nat, k = 2 * (Nat.div k 2) + Nat.mod k 2 := fun k => (Nat.div_add_mod k 2).symm
    have hm : ∀ k : Nat, Nat.mod k 2 = 0 ∨ Nat.mod k 2 = 1 := fun k => Nat.mod_two_eq_zero_or_one k
    have hi := hd i
    have hj := hd j
    rcases hm i with h1 | h1 <;> rcases hm j with h2 | h2 <;> simp only [Fm.set, Fm.get, h1, h2, cond, Nat.beq] at h ⊢
    · rcases Fm.get_set a _ _ x y h with ⟨e, h⟩ | ⟨e, h⟩
      · exact .inl ⟨by rw [hi, hj, h1, h2, e], h⟩
      · exact .inr ⟨fun e' => e (by rw [e']), h⟩
    · exact .inr ⟨fun e' => by rw [e'] at h1; omega, h⟩
    · exact .inr ⟨fun e' => by rw [e'] at h1; omega, h⟩
    · rcases Fm.get_set b _ _ x y h with ⟨e, h⟩ | ⟨e, h⟩
      · exact .inl ⟨by rw [hi, hj, h1, h2, e], h⟩
      · exact .inr ⟨fun e' => e (by rw [e']), h⟩
theorem Fm.get_mk : ∀ (d i : Nat), (Fm.mk T d).get i = none
  | 0, i => by simp only [Fm.mk, Fm.get]; cases Nat.beq i 0 <;> rfl
  | d + 1, i => by simp only [Fm.mk, Fm.get, Fm.get_mk d]; cases Nat.beq (Nat.mod i 2) 0 <;> rfl
/-- The conditions are met (behind a name of its own: nobody reckons it by mischance). -/
structure Met (v : VCT) : Prop where
  den : v.den
theorem Met.of {p : Prop} {v : VCT} (h : p = v.den) (hp : p) : Met v := ⟨h ▸ hp⟩
theorem br_mk {t : Bool} {a b : Prop} (h1 : t = true → a) (h2 : t = false → b) : Br t a b := by
  cases t
  · exact h2 rfl
  · exact h1 rfl
structure Fr (T : Tys) where
  length : Nat
  t : Fm T
def Fr.get (f : Fr T) (i : Nat) : Option (SV T) := cond (Nat.ble (i + 1) f.length) (f.t.get i) none
def Fr.set (f : Fr T) (i : Nat) (x : Option (SV T)) : Fr T := { length := f.length, t := f.t.set i x }
def Fr.nil : Fr T := { length := 0, t := .l none }
theorem Fr.get_some {f : Fr T} {i : Nat} {x : SV T} (h : f.get i = some x) : i < f.length ∧ f.t.get i = some x := by
  unfold Fr.get at h
  cases hb : Nat.ble (i + 1) f.length with
  | true => rw [hb] at h; exact ⟨Nat.le_of_ble_eq_true hb, h⟩
  | false => rw [hb] at h; cases h
theorem Fr.get_set {f : Fr T} {i j : Nat} {x : Option (SV T)} {y : SV T} (h : (f.set i x).get j = some y) : (i = j ∧ x = some y ∧ i < f.length) ∨ (i ≠ j ∧ f.get j = some y) := by
  obtain ⟨h1, h2⟩ := Fr.get_some h
  rcases Fm.get_set _ _ _ _ _ h2 with ⟨e, h3⟩ | ⟨e, h3⟩
  · exact .inl ⟨e, h3, by rw [e]; exact h1⟩
  · refine .inr ⟨e, ?_⟩
    unfold Fr.get
    rw [Nat.ble_eq_true_of_le (show j + 1 ≤ f.length from h1)]
    exact h3
structure St (T : Tys) where
  fr : Fr T
  H : List (Ent T)

inductive Ex (T : Tys) : Type where
  | normal
  | exit (id : Nat)
  | goto (l : Nat)
  | ret
  | panic (x : SV T)

/-- The pure run of an operation's meaning: no memory. -/
def prun {α : Type} (P : Program) : Sem α → Option α
  | .pure a => some a
  | .program k => prun P (k P)
  | .mark _ k => prun P k
  | _ => none

/-- The program; the pieces of the zero values of the types that are named; what is known of package-level variables. -/
structure Ctx (T : Tys) where
  P : Program
  zt : TypeId → Option (List (Seg T))
  glob : List (Nat × Value)

def St.get (S : St T) (i : Nat) : Option (SV T) := S.fr.get i
def St.set (S : St T) (d : Option Tmp) (x : SV T) : St T :=
  match d with
  | some d => { fr := S.fr.set d (some x), H := S.H }
  | none => S
def St.ev (S : St T) : Operand → Option (SV T)
  | .tmp t => S.get t
  | .const x => if x.oneCell' then some (.v x) else none
  | .global g => some (.v (.pointer (some ⟨g, 0, none⟩)))
  | .func f => some (.v (.func (.func f) #[] #[]))
def St.evV (S : St T) (x : Operand) : Value :=
  match S.ev x with
  | some (.v y) => y
  | _ => undef
def isV (x : Option (SV T)) : Bool := match x with | some (.v _) => true | _ => false
def St.plain (S : St T) (xs : List Operand) : Bool := xs.all fun x => isV (S.ev x)
def St.ent (S : St T) (h : Nat) : Ent T := S.H.getD h .X
def St.setEnt (S : St T) (h : Nat) (e : Ent T) : St T := { S with H := S.H.set h e }
def St.push (S : St T) (e : Ent T) : St T := { S with H := S.H ++ [e] }

def szE (T : Tys) (e : TypeId) : Nat := (T.enc e).sz
/-- The cell at a known place. -/
def findC : List (Seg T) → Nat → Option (SV T)
  | .c x :: _, 0 => some x
  | .c _ :: r, n + 1 => findC r n
  | .r e k _ :: r, n => if n < k * szE T e then none else findC r (n - k * szE T e)
  | [], _ => none
def setC : List (Seg T) → Nat → SV T → Option (List (Seg T))
  | .c _ :: r, 0, y => some (.c y :: r)
  | .c x :: r, n + 1, y => (setC r n y).map (.c x :: ·)
  | .r e k l :: r, n, y => if n < k * szE T e then none else (setC r (n - k * szE T e) y).map (.r e k l :: ·)
  | [], _, _ => none
inductive Row (T : Tys) : Type where
  | mk (e : TypeId) (n : Nat) (l : List (T.El e))
def findR : List (Seg T) → Nat → Option (Row T)
  | .r e k l :: r, n => if n = 0 then some (.mk e k l) else if n < k * szE T e then none else findR r (n - k * szE T e)
  | .c _ :: r, n + 1 => findR r n
  | _, _ => none
/-- The row at a place gets other elements, as many. -/
def setR (e' : TypeId) (n' : Nat) (l' : List (T.El e')) : List (Seg T) → Nat → Option (List (Seg T))
  | .r e k l :: r, n => if n = 0 then (if e = e' then some (.r e' n' l' :: r) else none) else if n < k * szE T e then none else (setR e' n' l' r (n - k * szE T e)).map (.r e k l :: ·)
  | .c x :: r, n + 1 => (setR e' n' l' r n).map (.c x :: ·)
  | _, _ => none
/-- Pieces up to a place, and from it on. -/
def splitS : List (Seg T) → Nat → Option (List (Seg T) × List (Seg T))
  | l, 0 => some ([], l)
  | .c x :: r, n + 1 => (splitS r n).map fun (a, b) => (.c x :: a, b)
  | .r e k l :: r, n + 1 => if n + 1 < k * szE T e then none else (splitS r (n + 1 - k * szE T e)).map fun (a, b) => (.r e k l :: a, b)
  | [], _ + 1 => none
/-- How many cells pieces have. -/
def segsLen : List (Seg T) → Nat
  | [] => 0
  | .c _ :: r => 1 + segsLen r
  | .r e k _ :: r => k * szE T e + segsLen r
def subS (xs : List (Seg T)) (off n : Nat) : Option (List (Seg T)) :=
  match splitS xs off with
  | some (_, r) => match splitS r n with
    | some (m, _) => some m
    | none => none
  | none => none
def putS (xs : List (Seg T)) (off n : Nat) (ys : List (Seg T)) : Option (List (Seg T)) :=
  match splitS xs off with
  | some (a, r) => match splitS r n with
    | some (_, z) => some (a ++ ys ++ z)
    | none => none
  | none => none

def isAggT (P : Program) (t : TypeId) : Option Bool := match P.underlying t with
  | some (.struct _) => some true
  | some (.array _ _) => some true
  | some _ => some false
  | none => none
def sizeT (P : Program) (t : TypeId) : Option Nat := (P.info? t).map (·.size)
def fieldT (P : Program) (t : TypeId) (i : Nat) : Option Field := match P.underlying t with
  | some (.struct fs) => fs[i]?
  | _ => none

def append? {α : Type} (a b : Option (List α)) : Option (List α) := match a, b with
  | some x, some y => some (x ++ y)
  | _, _ => none
def valSegs (x : Value) : List (Seg T) := match x with
  | .agg cs => cs.toList.map fun y => .c (.v y)
  | y => [.c (.v y)]
/-- The pieces of a zero value of a type. -/
def zsegs (P : Program) (zero : (e : TypeId) → Option (T.El e)) : Nat → TypeId → Option (List (Seg T))
  | 0, _ => none
  | d + 1, t => match P.underlying t with
    | some (.struct fs) => fs.toList.foldr (fun f acc => append? (zsegs P zero d f.type) acc) (some [])
    | some (.array n e) => match zero e with
      | some z => some [.r e n (List.replicate n z)]
      | none => (List.replicate n ()).foldr (fun _ acc => append? (zsegs P zero d e) acc) (some [])
    | some _ => match (P.info? t).bind (·.zero) with
      | some (.agg _) => none
      | some z => some [.c (.v z)]
      | none => none
    | none => none
/-- A value's pieces. -/
def SV.segs : SV T → List (Seg T)
  | .a xs => xs
  | x => [.c x]

/-- A value read out of pieces, of a type. -/
def readS (P : Program) (t : TypeId) (xs : List (Seg T)) (off : Nat) : Option (SV T) :=
  match isAggT P t, sizeT P t with
  | some true, some n => (subS xs off n).map .a
  | some false, _ => findC xs off
  | _, _ => none
/-- An element's part, by its type. -/
def readE (P : Program) (t : TypeId) (cells : List Value) (fld : Nat) : Option (SV T) :=
  match isAggT P t, sizeT P t with
  | some true, some n => if fld + n ≤ cells.length then some (.a (((cells.drop fld).take n).map fun y => .c (.v y))) else none
  | some false, _ => (cells[fld]?).map .v
  | _, _ => none
def elemK (P : Program) (t e : TypeId) (l : List (T.El e)) (i fld : Nat) (k : SV T → VCT) : VCT :=
  .fact (i < l.length) (.all (T.El e) fun y => .asm (l[i]? = some y) (match readE P t ((T.enc e).enc y) fld with
    | some z => k z
    | none => .ff "no such part of an element"))

def ptrLoad (C : Ctx T) (t : TypeId) (S : St T) (x : SV T) (k : SV T → VCT) : VCT :=
  match x with
  | .p h b (.lit o) => match S.ent h with
    | .B b' _ segs => match readS C.P t segs o with
      | some y => .fact (b = b') (k y)
      | none => .ff "load: no such cell"
    | _ => .ff "load: no block"
  | .p h b (.el base i sz fld) => match S.ent h with
    | .B b' _ segs => match findR segs base with
      | some (.mk e n l) => if sz = szE T e then .fact (b = b') (elemK C.P t e l i fld k) else .ff "load: another size"
      | none => .ff "load: no row"
    | _ => .ff "load: no block"
  | .q h e x i fld => match S.ent h with
    | .O x' e' l => if e = e' then .fact (x = x') (elemK C.P t e' l i fld k) else .ff "load: another type"
    | _ => .ff "load: no row of its own"
  | .rq e x l i fld => elemK C.P t e l i fld k
  | .v (.pointer (some ⟨g, 0, none⟩)) => match C.glob.lookup g with
    | some y => match isAggT C.P t with
      | some false => k (.v y)
      | _ => .ff "load: a global aggregate"
    | none => .ff "load: an unknown variable"
  | _ => .ff "load: no pointer"

end Go.Vg
