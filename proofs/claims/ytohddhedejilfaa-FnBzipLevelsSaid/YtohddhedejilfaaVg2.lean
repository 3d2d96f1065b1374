/-
  The generator, part 2: the operations that leave memory alone.
-/
import Derived.Test.YtohddhedejilfaaVg1
set_option linter.unusedVariables false
namespace Go.Vg
variable {T : Tys}

def inI64 (n : Int) : Prop := -9223372036854775808 ≤ n ∧ n < 9223372036854775808
def bitI (op : BinOp) (k : IntKind) (x y : Int) : Int :=
  let a := BitVec.ofInt k.bits x
  let b := BitVec.ofInt k.bits y
  k.wrap (match op with
    | .and => ((a &&& b).toNat : Int)
    | .or => (a ||| b).toNat
    | .xor => (a ^^^ b).toNat
    | .andNot => (a &&& ~~~b).toNat
    | _ => 0)
def mxI (a b : Int) : Int := if b > a then b else a
def mnI (a b : Int) : Int := if b < a then b else a
def shlI (k : IntKind) (x y : Int) : Int := k.wrap (x * 2 ^ (min y.toNat k.bits))
def shrI (k : IntKind) (x y : Int) : Int := x.fdiv (2 ^ (min y.toNat k.bits))

def arith (k : IntKind) (n : Int) (c : SV T → VCT) : VCT := match k with
  | .i64 => .fact (inI64 n) (c (.v (.int .i64 n)))
  | k => c (.v (.int k (k.wrap n)))

/-- An operation on two whole numbers. -/
def binInt (op : BinOp) (k : IntKind) (a b : Int) (c : SV T → VCT) : VCT := match op with
  | .add => arith k (a + b) c
  | .sub => arith k (a - b) c
  | .mul => arith k (a * b) c
  | .quo => .fact (b ≠ 0) (c (.v (.int k (k.wrap (a.tdiv b)))))
  | .rem => .fact (b ≠ 0) (c (.v (.int k (a.tmod b))))
  | .and => c (.v (.int k (bitI .and k a b)))
  | .or => c (.v (.int k (bitI .or k a b)))
  | .xor => c (.v (.int k (bitI .xor k a b)))
  | .andNot => c (.v (.int k (bitI .andNot k a b)))
  | .eql => c (.v (.bool (a == b)))
  | .neq => c (.v (.bool (a != b)))
  | .lss => c (.v (.bool (decide (a < b))))
  | .leq => c (.v (.bool (decide (a ≤ b))))
  | .gtr => c (.v (.bool (decide (a > b))))
  | .geq => c (.v (.bool (decide (a ≥ b))))
  | _ => .ff "an operation on numbers"

/-- Is it something that is not nil, for sure? -/
def SV.notNil : SV T → Bool
  | .p _ _ _ => true
  | .s _ _ _ _ _ _ _ => true
  | .i _ _ => true
  | .v (.iface _ _) => true
  | .v (.pointer (some _)) => true
  | .f _ _ _ => true
  | _ => false
def SV.isNil : SV T → Bool
  | .v (.pointer none) => true
  | .v .nilIface => true
  | .v (.slice none _ _) => true
  | .v .nilFunc => true
  | _ => false
def nilFits (P : Program) (t : TypeId) : SV T → SV T → Bool
  | .p _ _ _, .v (.pointer none) => match P.underlying t with | some (.pointer _) => true | _ => false
  | .v (.pointer none), .p _ _ _ => match P.underlying t with | some (.pointer _) => true | _ => false
  | .i _ _, .v .nilIface => match P.underlying t with | some (.interface _) => true | _ => false
  | .v .nilIface, .i _ _ => match P.underlying t with | some (.interface _) => true | _ => false
  | .s _ _ _ _ _ _ _, .v (.slice none _ _) => match P.underlying t with | some (.slice _) => true | _ => false
  | _, _ => false

/-- A pure operation on plain values: by the model's own text. -/
def generic (C : Ctx T) (o : Oper) (S : St T) (c : SV T → VCT) : VCT :=
  if S.plain o.op.operands.toList then match prun C.P (execOp S.evV o) with
    | some (.value y) => if y.oneCell' then c (.v y) else .ff "a value of many cells"
    | _ => .ff "an operation that is not pure"
  else .ff "an operation on memory"

def assertsB (P : Program) (t asserted : TypeId) : Option Bool := match prun P (Instr.typeAssert (.iface t undef) 0 asserted true) with
  | some (.tuple vs) => match (vs[1]? : Option Value) with
    | some (.bool b) => some b
    | _ => none
  | _ => none
def isIfaceT (P : Program) (t : TypeId) : Bool := match P.underlying t with | some (.interface _) => true | _ => false
/-- 'x.(T)' of an interface value whose type is known. -/
def assertV (C : Ctx T) (t : TypeId) (x inner : SV T) (asserted : TypeId) (ok : Bool) (c : SV T → VCT) : VCT :=
  match assertsB C.P t asserted with
  | some true => let y := if isIfaceT C.P asserted then x else inner
    c (if ok then .t [y, .v (.bool true)] else y)
  | some false => if ok then match (C.P.info? asserted).bind (·.zero) with
      | some z => if z.oneCell' then c (.t [.v z, .v (.bool false)]) else .ff "a zero value of many cells"
      | none => .ff "no zero value" else .ff "a type assertion that fails"
  | none => .ff "a type assertion"

def SV.isPart : SV T → Bool
  | .t _ => false
  | .un => false
  | _ => true
def buildS (places : List (Nat × Nat)) : List (Nat × SV T) → List (Seg T) → Option (List (Seg T))
  | [], segs => some segs
  | (i, x) :: r, segs => match places[i]? with
    | some (off, n) => if segsLen x.segs = n ∧ x.isPart = true then match putS segs off n x.segs with
        | some segs' => buildS places r segs'
        | none => none
      else none
    | none => none
/-- The parts of an array literal: each of n cells. -/
def buildA (n : Nat) : List (Nat × SV T) → List (Seg T) → Option (List (Seg T))
  | [], segs => some segs
  | (i, x) :: r, segs => if segsLen x.segs = n ∧ x.isPart = true then match putS segs (i * n) n x.segs with
      | some segs' => buildA n r segs'
      | none => none
    else none
def evL (S : St T) : List Operand → Option (List (SV T))
  | [] => some []
  | x :: r => match S.ev x, evL S r with
    | some y, some l => some (y :: l)
    | _, _ => none
def evP (S : St T) : List (Nat × Operand) → Option (List (Nat × SV T))
  | [] => some []
  | (i, x) :: r => match S.ev x, evP S r with
    | some y, some l => some ((i, y) :: l)
    | _, _ => none

def idxInt (S : St T) (x : Operand) : Option Int := match S.ev x with
  | some (.v (.int _ n)) => some n
  | _ => none
def inRange (n : Int) (len : Nat) : Prop := 0 ≤ n ∧ n < len

def idxAddr (C : Ctx T) (t : TypeId) (S : St T) (x : SV T) (n : Int) (c : SV T → VCT) : VCT :=
  match x with
  | .p h b (.lit o) => match C.P.underlying t with
    | some (.array len e) => match sizeT C.P e with
      | some sz => match S.ent h with
        | .B b' _ segs => match findR segs o with
          | some (.mk e' k l) => if sz = szE T e' ∧ sz ≠ 0 then .fact (inRange n len) (c (.p h b (.el o n.toNat sz 0))) else .ff "index: another size"
          | none => if sz = 0 then .ff "index: no cells" else .fact (inRange n len) (c (.p h b (.lit (o + n.toNat * sz))))
        | _ => .ff "index: no block"
      | none => .ff "index: no size"
    | _ => .ff "index: no array"
  | .s h b e base lo len cap => match C.P.underlying t with
    | some (.slice e') => if sizeT C.P e' = some (szE T e) ∧ szE T e ≠ 0 then .fact (inRange n len) (c (.p h b (.el base (lo + n.toNat) (szE T e) 0))) else .ff "index: another size"
    | _ => .ff "index: no slice"
  | .o h e x k => match C.P.underlying t with
    | some (.slice e') => if sizeT C.P e' = some (szE T e) ∧ szE T e ≠ 0 then match S.ent h with
        | .O x' e2 l => if e = e2 then .fact (x = x') (.fact (inRange n l.length) (c (.q h e x n.toNat 0))) else .ff "index: another type"
        | _ => .ff "index: no row of its own"
      else .ff "index: another size"
    | _ => .ff "index: no slice"
  | .ov h e x lo hi => match C.P.underlying t with
    | some (.slice e') => if sizeT C.P e' = some (szE T e) ∧ szE T e ≠ 0 then match S.ent h with
        | .O x' e2 l => if e = e2 then .fact (x = x') (.fact (inRange n (hi - lo) ∧ hi ≤ l.length) (c (.q h e x (lo + n.toNat) 0))) else .ff "index: another type"
        | _ => .ff "index: no row of its own"
      else .ff "index: another size"
    | _ => .ff "index: no slice"
  | .ro e x l => match C.P.underlying t with
    | some (.slice e') => if sizeT C.P e' = some (szE T e) ∧ szE T e ≠ 0 then .fact (inRange n l.length) (c (.rq e x l n.toNat 0)) else .ff "index: another size"
    | _ => .ff "index: no slice"
  | _ => .ff "index: of what?"

def bound (S : St T) (x : Option Operand) (d : Int) : Option Int := match x with
  | none => some d
  | some x => idxInt S x
def slicing (C : Ctx T) (t : TypeId) (S : St T) (x : SV T) (lo hi mx : Option Operand) (c : SV T → VCT) : VCT :=
  if mx.isSome then .ff "slice: three indexes" else
  match x with
  | .p h b (.lit o) => match C.P.underlying t with
    | some (.array n e) => match S.ent h with
      | .B b' _ segs => match findR segs o with
        | some (.mk e' k l) => if sizeT C.P e = some (szE T e') then match bound S lo 0, bound S hi n with
            | some l, some u => .fact (0 ≤ l ∧ l ≤ u ∧ u ≤ n ∧ (l < n ∨ l = 0)) (c (.s h b e' o l.toNat (u.toNat - l.toNat) (n - l.toNat)))
            | _, _ => .ff "slice: bounds"
          else .ff "slice: another size"
        | none => .ff "slice: no row"
      | _ => .ff "slice: no block"
    | _ => .ff "slice: no array"
  | .s h b e base k len cap => match C.P.underlying t with
    | some (.slice e') => if sizeT C.P e' = some (szE T e) then match bound S lo 0, bound S hi len with
        | some l, some u => .fact (0 ≤ l ∧ l ≤ u ∧ u ≤ cap ∧ (l < cap ∨ l = 0)) (c (.s h b e base (k + l.toNat) (u.toNat - l.toNat) (cap - l.toNat)))
        | _, _ => .ff "slice: bounds"
      else .ff "slice: another size"
    | _ => .ff "slice: no slice"
  | .o h e x k => match C.P.underlying t with
    | some (.slice e') => if sizeT C.P e' = some (szE T e) then match S.ent h with
        | .O x' e2 xs => if e = e2 then match bound S lo 0, bound S hi k with
            | some l, some u => .fact (x = x') (.fact (k = xs.length ∧ 0 ≤ l ∧ l ≤ u ∧ u ≤ k) (c (.ov h e x l.toNat u.toNat)))
            | _, _ => .ff "slice: bounds"
          else .ff "slice: another type"
        | _ => .ff "slice: no row of its own"
      else .ff "slice: another size"
    | _ => .ff "slice: no slice"
  | .ro e x xs => match C.P.underlying t with
    | some (.slice e') => if sizeT C.P e' = some (szE T e) then match bound S lo 0, bound S hi xs.length with
        | some l, some u => .fact (0 ≤ l ∧ l ≤ u ∧ u ≤ xs.length) (c (.ro e (sliceVal x l.toNat u.toNat (szE T e)) ((xs.take u.toNat).drop l.toNat)))
        | _, _ => .ff "slice: bounds"
      else .ff "slice: another size"
    | _ => .ff "slice: no slice"
  | .v (.slice none 0 0) => match C.P.underlying t with
    | some (.slice e') => match sizeT C.P e', bound S lo 0, bound S hi 0 with
        | some _, some l, some u => .fact (l = 0 ∧ u = 0) (c (.v (.slice none 0 0)))
        | _, _, _ => .ff "slice: bounds"
    | _ => .ff "slice: no slice"
  | _ => .ff "slice: of what?"

def lenSV : SV T → Option Nat
  | .s _ _ _ _ _ len _ => some len
  | .o _ _ _ n => some n
  | .ov _ _ _ lo hi => some (hi - lo)
  | .ro _ _ l => some l.length
  | .v (.slice _ n _) => some n
  | _ => none
def capSV : SV T → Option Nat
  | .s _ _ _ _ _ _ cap => some cap
  | .o _ _ x _ => some (capVal x)
  | .v (.slice _ _ c) => some c
  | _ => none

/-- An operation that leaves memory alone: its value goes to c. -/
def stx (C : Ctx T) (o : Oper) (S : St T) (c : SV T → VCT) : VCT :=
  match o.op with
  | .move x | .assign x => match S.ev x with
    | some y => c y
    | none => .ff "a slot of which nothing is known"
  | .pick b x y => match S.ev b with
    | some (.v (.bool t)) => .br t (match S.ev x with | some u => c u | none => .ff "pick") (match S.ev y with | some u => c u | none => .ff "pick")
    | _ => .ff "pick"
  | .nilCheck x => match S.ev x with
    | some (.p h b o) => c (.p h b o)
    | some (.i t y) => c (.i t y)
    | some (.q h e x i f) => match S.ent h with
      | .O x' e' l => if e = e' then .fact (x = x' ∧ i < l.length) (c (.q h e x i f)) else .ff "nilCheck"
      | _ => .ff "nilCheck"
    | some (.rq e x l i f) => .fact (i < l.length) (c (.rq e x l i f))
    | some (.f (.func g) a b) => c (.f (.func g) a b)
    | _ => generic C o S c
  | .fieldAddr st x i => match fieldT C.P st i with
    | some f => match sizeT C.P f.type with
      | some n => if n = 0 then .ff "a field without cells" else match S.ev x with
        | some (.p h b o) => c (.p h b (o.add f.offset))
        | some (.q h e x i fl) => match S.ent h with
          | .O x' e' l => if e = e' then .fact (x = x' ∧ i < l.length) (c (.q h e x i (fl + f.offset))) else .ff "fieldAddr"
          | _ => .ff "fieldAddr"
        | some (.rq e x l i fl) => .fact (i < l.length) (c (.rq e x l i (fl + f.offset)))
        | _ => .ff "fieldAddr: of what?"
      | none => .ff "fieldAddr: no size"
    | none => .ff "fieldAddr: no field"
  | .load t x => match S.ev x with
    | some y => ptrLoad C t S y c
    | none => .ff "load"
  | .binOp op xt x y _ => match S.ev x, S.ev y with
    | some (.v (.int k a)), some (.v (.int k' b)) => match op with
      | .shl => .fact (0 ≤ b) (c (.v (.int k (shlI k a b))))
      | .shr => .fact (0 ≤ b) (c (.v (.int k (shrI k a b))))
      | op => if k = k' then binInt op k a b c else .ff "numbers of two kinds"
    | some (.v _), some (.v _) => generic C o S c
    | some u, some w => if nilFits C.P xt u w then match op with
        | .eql => c (.v (.bool false))
        | .neq => c (.v (.bool true))
        | _ => .ff "an operation on memory"
      else .ff "a comparison of memory"
    | _, _ => .ff "binOp"
  | .unOp op xt x => match S.ev x with
    | some (.v (.int k a)) => match op with
      | .neg => arith k (0 - a) c
      | .xor => c (.v (.int k (bitI .xor k (if k.signed then -1 else k.max) a)))
      | _ => .ff "unOp"
    | some (.v (.bool b)) => match op with
      | .not => c (.v (.bool !b))
      | _ => .ff "unOp"
    | _ => .ff "unOp"
  | .convert src dst x => match S.ev x with
    | some (.v (.int k n)) => match C.P.underlying src, C.P.underlying dst with
      | some _, some (.int .i64) => .fact (inI64 n) (c (.v (.int .i64 n)))
      | some _, some (.int k') => c (.v (.int k' (k'.wrap n)))
      | _, _ => .ff "convert"
    | _ => generic C o S c
  | .makeInterface t x => match C.P.underlying t, S.ev x with
    | some (.interface _), _ => .ff "makeInterface"
    | some _, some (.v y) => c (.v (.iface t y))
    | some _, some y => c (.i t y)
    | _, _ => .ff "makeInterface"
  | .makeFunc fn a b => match evL S a.toList, evL S b.toList with
    | some x, some y => c (.f fn x y)
    | _, _ => .ff "makeFunc"
  | .extract x i => match S.ev x with
    | some (.t xs) => match (xs[i]? : Option (SV T)) with
      | some y => c y
      | none => .ff "extract"
    | _ => generic C o S c
  | .field t x i => match S.ev x with
    | some (.a segs) => match fieldT C.P t i with
      | some f => match readS C.P f.type segs f.offset with
        | some y => c y
        | none => .ff "field"
      | none => .ff "field"
    | _ => generic C o S c
  | .build t ps => match evP S ps.toList, C.zt t with
    | some l, some z => match C.P.underlying t with
      | some (.struct fs) => match fs.toList.mapM (fun f => (C.P.info? f.type).map fun i => (f.offset, i.size)) with
        | some places => match buildS places l z with
          | some segs => c (.a segs)
          | none => .ff "build"
        | none => .ff "build: no sizes"
      | some (.array _ e) => match sizeT C.P e with
        | some n => match buildA n l z with
          | some segs => c (.a segs)
          | none => .ff "build"
        | none => .ff "build"
      | _ => .ff "build"
    | _, _ => .ff "build"
  | .indexAddr t x i => match S.ev x, idxInt S i with
    | some y, some n => idxAddr C t S y n c
    | _, _ => .ff "indexAddr"
  | .index t x i => match S.ev x, idxInt S i with
    | some (.a [.r e k l]), some n => match C.P.underlying t with
      | some (.array len e') => if sizeT C.P e' = some (szE T e) ∧ len = k then .fact (0 ≤ n) (elemK C.P e' e l n.toNat 0 c) else .ff "index: another size"
      | _ => .ff "index"
    | _, _ => generic C o S c
  | .slice t x lo hi mx => match S.ev x with
    | some y => slicing C t S y lo hi mx c
    | none => .ff "slice"
  | .typeAssert x xt asserted ok => match S.ev x with
    | some (.i t y) => assertV C t (.i t y) y asserted ok c
    | some (.v (.iface t y)) => if y.oneCell' then assertV C t (.v (.iface t y)) (.v y) asserted ok c else .ff "a type assertion: many cells"
    | _ => generic C o S c
  | .call { callee := .builtin .len, args := args, argTypes := ts } => match args.toList, ts.toList with
    | [x], [t] => match C.P.underlying t, S.ev x with
      | some (.slice _), some y => match lenSV y with
        | some n => c (.v (.int .i64 n))
        | none => .ff "len"
      | some (.array n _), _ => c (.v (.int .i64 n))
      | some (.pointer a), _ => match C.P.underlying a with
        | some (.array n _) => c (.v (.int .i64 n))
        | _ => .ff "len"
      | _, _ => generic C o S c
    | _, _ => .ff "len"
  | .call { callee := .builtin .cap, args := args, argTypes := ts } => match args.toList, ts.toList with
    | [x], [t] => match C.P.underlying t, S.ev x with
      | some (.slice _), some y => match capSV y with
        | some n => c (.v (.int .i64 n))
        | none => .ff "cap"
      | _, _ => generic C o S c
    | _, _ => .ff "cap"
  | .call { callee := .builtin .max, args := args, argTypes := ts } => match args.toList with
    | [x, y] => match S.ev x, S.ev y with
      | some (.v (.int k a)), some (.v (.int k' b)) => if k = k' then c (.v (.int k (mxI a b))) else .ff "max"
      | _, _ => .ff "max"
    | _ => .ff "max"
  | .call { callee := .builtin .min, args := args, argTypes := ts } => match args.toList with
    | [x, y] => match S.ev x, S.ev y with
      | some (.v (.int k a)), some (.v (.int k' b)) => if k = k' then c (.v (.int k (mnI a b))) else .ff "min"
      | _, _ => .ff "min"
    | _ => .ff "min"
  | _ => .ff "not an operation that leaves memory alone"

/-- Does it leave memory alone, by its kind? -/
def isStill : Op → Bool
  | .move _ | .assign _ | .pick .. | .nilCheck _ | .fieldAddr .. | .load .. | .binOp .. | .unOp .. | .convert .. | .makeInterface .. | .makeFunc .. | .extract ..
  | .field .. | .build .. | .indexAddr .. | .index .. | .slice .. | .typeAssert .. => true
  | .call { callee := .builtin b, .. } => match b with
    | .len | .cap | .max | .min => true
    | _ => false
  | _ => false

end Go.Vg
