/-
  The generator, part 3: what makes or writes memory, calls; regions; code; functions.
-/
import Derived.Test.YtohddhedejilfaaVg2
set_option linter.unusedVariables false
namespace Go.Vg
variable {T : Tys}

/-- What a call of a function asks, and what it gives: over all symbolic heaps. The first continuation: it returns; the second: it panics. -/
abbrev PT (T : Tys) := List (SV T) → List (Ent T) → (SV T → List (Ent T) → VCT) → (SV T → List (Ent T) → VCT) → VCT

def decL (e : TypeId) : Nat → List Value → Option (List (T.El e))
  | 0, _ => some []
  | n + 1, l => match (T.enc e).dec (l.take (szE T e)), decL e n (l.drop (szE T e)) with
    | some x, some r => some (x :: r)
    | _, _ => none

/-- The elements that a slice value has, as a list. -/
def srcK (S : St T) (e : TypeId) (x : SV T) (k : List (T.El e) → VCT) : VCT :=
  match x with
  | .v (.slice none 0 _) => k []
  | .ro e' _ l => if h : e' = e then k (h ▸ l) else .ff "source: another type"
  | .o h e' x n => match S.ent h with
    | .O x' e2 l => if h : e2 = e then .fact (x = x' ∧ n = l.length) (k (h ▸ l)) else .ff "source: another type"
    | _ => .ff "source: no row of its own"
  | .ov h e' x lo hi => match S.ent h with
    | .O x' e2 l => if h : e2 = e then if e' = e then .fact (x = x' ∧ lo ≤ hi ∧ hi ≤ l.length) (k (((h ▸ l : List (T.El e)).take hi).drop lo)) else .ff "source: another type" else .ff "source: another type"
    | _ => .ff "source: no row of its own"
  | .s h b e' base lo len cap => match S.ent h with
    | .B b' _ segs => match findR segs base with
      | some (.mk e2 n l) => if h : e2 = e then if e' = e then .fact (b = b' ∧ lo + len ≤ l.length) (k (((h ▸ l : List (T.El e)).take (lo + len)).drop lo)) else .ff "source: another type" else .ff "source: another type"
      | none => if e' = e then match subS segs (base + lo * szE T e) (len * szE T e) with
        | some xs => match decL e len (Seg.cellsL xs) with
          | some l => .fact (b = b') (k l)
          | none => .ff "source: no elements"
        | none => .ff "source: no such cells" else .ff "source: another type"
    | _ => .ff "source: no block"
  | _ => .ff "source: of what?"

def ptrStore (C : Ctx T) (t : TypeId) (S : St T) (x y : SV T) (next : St T → VCT) : VCT :=
  match x with
  | .p h b (.lit o) => match S.ent h with
    | .B b' ty segs => match sizeT C.P t with
      | some n => if segsLen y.segs = n then match (match n, y.segs with
            | 1, [.c u] => setC segs o u
            | n, ys => putS segs o n ys) with
          | some segs' => .fact (b = b') (next (S.setEnt h (.B b' ty segs')))
          | none => .ff "store: no such cells"
        else .ff "store: another size"
      | none => .ff "store: no size"
    | _ => .ff "store: no block"
  | .p h b (.el base i sz fld) => match S.ent h with
    | .B b' ty segs => match findR segs base with
      | some (.mk e n l) => if sz = szE T e then match sizeT C.P t with
          | some m => if fld = 0 ∧ m = sz then match (T.enc e).dec (Seg.cellsL y.segs) with
              | some u => match setR e n (l.set i u) segs base with
                | some segs' => .fact (b = b' ∧ i < l.length) (next (S.setEnt h (.B b' ty segs')))
                | none => .ff "store: no row"
              | none => .ff "store: no element"
            else .fact (b = b') (.fact (i < l.length) (.all (T.El e) fun z => .asm (l[i]? = some z)
              (match (T.enc e).dec (((T.enc e).enc z).take fld ++ Seg.cellsL y.segs ++ ((T.enc e).enc z).drop (fld + m)) with
              | some u => match setR e n (l.set i u) segs base with
                | some segs' => if segsLen y.segs = m ∧ fld + m ≤ sz then next (S.setEnt h (.B b' ty segs')) else .ff "store: another size"
                | none => .ff "store: no row"
              | none => .ff "store: no element")))
          | none => .ff "store: no size"
        else .ff "store: another size"
      | none => .ff "store: no row"
    | _ => .ff "store: no block"
  | .q h e x i fld => match S.ent h with
    | .O x' e' l => if e = e' then match sizeT C.P t with
        | some m => if fld = 0 ∧ m = szE T e' then match (T.enc e').dec (Seg.cellsL y.segs) with
            | some u => .fact (x = x' ∧ i < l.length) (next (S.setEnt h (.O x' e' (l.set i u))))
            | none => .ff "store: no element"
          else .fact (x = x') (.fact (i < l.length) (.all (T.El e') fun z => .asm (l[i]? = some z)
            (match (T.enc e').dec (((T.enc e').enc z).take fld ++ Seg.cellsL y.segs ++ ((T.enc e').enc z).drop (fld + m)) with
            | some u => if segsLen y.segs = m ∧ fld + m ≤ szE T e' then next (S.setEnt h (.O x' e' (l.set i u))) else .ff "store: another size"
            | none => .ff "store: no element")))
        | none => .ff "store: no size"
      else .ff "store: another type"
    | _ => .ff "store: no row of its own"
  | _ => .ff "store: of what?"

def bytesT (P : Program) (t : TypeId) : Option Nat := (P.info? t).map (·.bytes)
/-- How much room a row may take. -/
def room (n bytes : Nat) : Prop := n ≤ 9223372036854775807 ∧ n * bytes ≤ 140737488355328
def bytesOf (l : List Int) : ByteArray := ⟨(l.map fun n => UInt8.ofNat n.toNat).toArray⟩

def appendK (C : Ctx T) (o : Oper) (S : St T) (t : TypeId) (dst src : SV T) (next : St T → VCT) : VCT :=
  match C.P.underlying t with
  | some (.slice e) => match (C.P.info? e).bind (·.zero), bytesT C.P e, sizeT C.P e with
    | some z, some by_, some sz => if sz = szE T e ∧ sz ≠ 0 ∧ z.cells.size = sz then match dst with
      | .v (.slice none 0 0) => srcK S e src fun news => .fact (room news.length by_) (.all Value fun x =>
          next ((S.push (.O x e news)).set o.dst (.o S.H.length e x news.length)))
      | .o h e' x n => match S.ent h with
        | .O x' e2 l => if h2 : e2 = e then .fact (x = x' ∧ n = l.length) (srcK S e src fun news => .fact (room (l.length + news.length) by_) (.all Value fun y =>
            next ((S.setEnt h (.O y e ((h2 ▸ l) ++ news))).set o.dst (.o h e y (n + news.length)))))
          else .ff "append: another type"
        | _ => .ff "append: no row of its own"
      | .ov h e' x 0 hi => match S.ent h with
        | .O x' e2 l => if h2 : e2 = e then if e' = e then .fact (x = x' ∧ hi ≤ l.length) (srcK S e src fun news => .fact (room (hi + news.length) by_) (.all Value fun y =>
            next ((S.setEnt h (.O y e ((h2 ▸ l : List (T.El e)).take hi ++ news))).set o.dst (.o h e y (hi + news.length))))) else .ff "append: another type"
          else .ff "append: another type"
        | _ => .ff "append: no row of its own"
      | _ => .ff "append: onto what?"
      else .ff "append: another size"
    | _, _, _ => .ff "append: no size"
  | _ => .ff "append: no slice"

def copyK (C : Ctx T) (o : Oper) (S : St T) (t : TypeId) (dst src : SV T) (next : St T → VCT) : VCT :=
  match C.P.underlying t with
  | some (.slice e) => if sizeT C.P e = some (szE T e) then match dst with
    | .s h b e' base lo len cap => match S.ent h with
      | .B b' ty segs => match findR segs base with
        | some (.mk e2 k l) => if h2 : e2 = e then if e' = e then srcK S e src fun news =>
            let n := min news.length len
            match setR e k ((h2 ▸ l : List (T.El e)).take lo ++ news.take n ++ (h2 ▸ l : List (T.El e)).drop (lo + n)) segs base with
            | some segs' => .fact (b = b' ∧ lo + len ≤ l.length) (next ((S.setEnt h (.B b' ty segs')).set o.dst (.v (.int .i64 n))))
            | none => .ff "copy: no row"
          else .ff "copy: another type" else .ff "copy: another type"
        | none => .ff "copy: no row"
      | _ => .ff "copy: no block"
    | .o h e' x k => match S.ent h with
      | .O x' e2 l => if h2 : e2 = e then .fact (x = x' ∧ k = l.length) (srcK S e src fun news =>
          next ((S.setEnt h (.O x' e (news.take (min news.length k) ++ (h2 ▸ l : List (T.El e)).drop (min news.length k)))).set o.dst (.v (.int .i64 (min news.length k : Nat)))))
        else .ff "copy: another type"
      | _ => .ff "copy: no row of its own"
    | .v (.slice none 0 _) => srcK S e src fun _ => next (S.set o.dst (.v (.int .i64 0)))
    | _ => .ff "copy: onto what?"
    else .ff "copy: another size"
  | _ => .ff "copy: no slice"

/-- The method that a call through an interface comes to: its function, where it takes the value as it is. -/
def methodOf (P : Program) (t : TypeId) (name : String) : Option Nat :=
  match P.info? t with
  | some i => match i.methods.find? (·.name == name) with
    | some m => if m.path.isEmpty then match m.func, P.underlying t with
        | some (f, true), some (.pointer _) => some f
        | some (f, false), some (.pointer _) => none
        | some (f, false), some _ => some f
        | _, _ => none
      else none
    | none => none
  | none => none

def callK (sp : Nat → Option (PT T)) (o : Oper) (S : St T) (f : Nat) (args : List (SV T)) (next : St T → VCT) (pan : SV T → St T → VCT) : VCT :=
  match sp f with
  | some pt => pt args S.H (fun r H => next (({ S with H := H } : St T).set o.dst r)) (fun x H => pan x { S with H := H })
  | none => .ff "a call of a function without a contract"

def opx (C : Ctx T) (sp : Nat → Option (PT T)) (o : Oper) (S : St T) (next : St T → VCT) (pan : SV T → St T → VCT) : VCT :=
  if isStill o.op then stx C o S fun y => next (S.set o.dst y) else
  match o.op with
  | .alloc t => match C.zt t with
    | some segs => .all Nat fun b => next ((S.push (.B b t segs)).set o.dst (.p S.H.length b (.lit 0)))
    | none => .ff "alloc: an unknown type"
  | .box t x => match S.ev x with
    | some (.t _) => .ff "box"
    | some .un => .ff "box"
    | some y => .all Nat fun b => next ((S.push (.B b t y.segs)).set o.dst (.p S.H.length b (.lit 0)))
    | none => .ff "box"
  | .store t x y => match S.ev x, S.ev y with
    | some _, some (.t _) => .ff "store"
    | some _, some .un => .ff "store"
    | some u, some w => ptrStore C t S u w fun S' => next (S'.set o.dst .un)
    | _, _ => .ff "store"
  | .buildSlice t len ps => match C.P.underlying t with
    | some (.slice e) => match C.zt e, evP S ps.toList, sizeT C.P e with
      | some z, some l, some n => if segsLen z = n ∧ n ≠ 0 ∧ len * n ≤ 16777216 then match buildA n l (List.replicate len z).flatten with
          | some segs => .all Nat fun b => match (if n = szE T e ∧ segsLen segs = len * n then decL e len (Seg.cellsL segs) else none) with
            | some xs => next ((S.push (.B b e [.r e len xs])).set o.dst (.s S.H.length b e 0 0 len len))
            | none => if n = szE T e then next ((S.push (.B b e segs)).set o.dst (.s S.H.length b e 0 0 len len)) else .ff "buildSlice: another size"
          | none => .ff "buildSlice"
        else .ff "buildSlice: another size"
      | _, _, _ => .ff "buildSlice"
    | _ => .ff "buildSlice"
  | .makeSlice t l c => match C.P.underlying t, idxInt S l, idxInt S c with
    | some (.slice e), some n, some m => match C.zt e, bytesT C.P e, sizeT C.P e with
      | some z, some by_, some sz => if sz = szE T e ∧ sz ≠ 0 then match (T.enc e).dec (Seg.cellsL z) with
          | some u => .fact (0 ≤ n ∧ n ≤ m ∧ room m.toNat by_) (.all Value fun x => next ((S.push (.O x e (List.replicate n.toNat u))).set o.dst (.o S.H.length e x n.toNat)))
          | none => .ff "make: no element"
        else .ff "make: another size"
      | _, _, _ => .ff "make"
    | _, _, _ => .ff "make"
  | .convert src dst x => .ff "convert"
  | .panic x => match S.ev x with
    | some (.i t y) => pan (.i t y) S
    | some (.v (.iface t y)) => pan (.v (.iface t y)) S
    | _ => .ff "panic"
  | .call c => match c.callee with
    | .builtin .append => match c.args.toList, c.argTypes.toList with
      | [x, y], [t, t'] => if t = t' then match S.ev x, S.ev y with
          | some u, some w => appendK C o S t u w next
          | _, _ => .ff "append"
        else .ff "append: two types"
      | _, _ => .ff "append"
    | .builtin .copy => match c.args.toList, c.argTypes.toList with
      | [x, y], [t, t'] => if t = t' then match S.ev x, S.ev y with
          | some u, some w => copyK C o S t u w next
          | _, _ => .ff "copy"
        else .ff "copy: two types"
      | _, _ => .ff "copy"
    | .builtin _ => .ff "a builtin"
    | .value (.func f) => match evL S c.args.toList with
      | some args => callK sp o S f args next pan
      | none => .ff "call: an unknown argument"
    | .value g => match S.ev g, evL S c.args.toList with
      | some (.f (.func f) a b), some args => callK sp o S f (a ++ args ++ b) next pan
      | some (.v (.func (.func f) p q)), some args => if p.size = 0 ∧ q.size = 0 then callK sp o S f args next pan else .ff "call: captured values"
      | _, _ => .ff "call: of what?"
    | .invoke r name => match S.ev r, evL S c.args.toList with
      | some (.i t y), some args => match methodOf C.P t name with
        | some f => callK sp o S f (y :: args) next pan
        | none => .ff "invoke: no such method"
      | some (.v (.iface t y)), some args => match methodOf C.P t name with
        | some f => if y.oneCell' then callK sp o S f (.v y :: args) next pan else .ff "invoke: many cells"
        | none => .ff "invoke: no such method"
      | _, _ => .ff "invoke: of what?"
  | _ => .ff "an operation that the generator lacks"

/-! The kernel reckons by need: what is laid into the state is brought into its form at once. -/
def forceSV : SV T → (SV T → VCT) → VCT
  | .un, k => k .un
  | .v x, k => k (.v x)
  | .p h b o, k => k (.p h b o)
  | .s h b e base lo len cap, k => k (.s h b e base lo len cap)
  | .o h e x n, k => k (.o h e x n)
  | .ov h e x lo hi, k => k (.ov h e x lo hi)
  | .q h e x i fld, k => k (.q h e x i fld)
  | .ro e x l, k => k (.ro e x l)
  | .rq e x l i fld, k => k (.rq e x l i fld)
  | .i t x, k => k (.i t x)
  | .a xs, k => k (.a xs)
  | .t xs, k => k (.t xs)
  | .f fn a b, k => k (.f fn a b)
theorem forceSV_eq (x : SV T) (k : SV T → VCT) : forceSV x k = k x := by cases x <;> rfl
def forceFm : Fm T → (Fm T → VCT) → VCT
  | .l none, k => k (.l none)
  | .l (some x), k => forceSV x fun x => k (.l (some x))
  | .n a b, k => forceFm a fun a => forceFm b fun b => k (.n a b)
theorem forceFm_eq (f : Fm T) (k : Fm T → VCT) : forceFm f k = k f := by
  induction f generalizing k with
  | l x => cases x <;> simp [forceFm, forceSV_eq]
  | n a b iha ihb => simp [forceFm, iha, ihb]
/-- Along one slot's path alone. -/
def forceP : Fm T → Nat → (Fm T → VCT) → VCT
  | .l none, _, k => k (.l none)
  | .l (some x), _, k => forceSV x fun x => k (.l (some x))
  | .n a b, i, k => cond (Nat.beq (Nat.mod i 2) 0) (forceP a (Nat.div i 2) fun a => k (.n a b)) (forceP b (Nat.div i 2) fun b => k (.n a b))
theorem forceP_eq (f : Fm T) (i : Nat) (k : Fm T → VCT) : forceP f i k = k f := by
  induction f generalizing k i with
  | l x => cases x <;> simp [forceP, forceSV_eq]
  | n a b iha ihb =>
    simp only [forceP, iha, ihb]
    cases Nat.beq (Nat.mod i 2) 0 <;> rfl
def forceSegs : List (Seg T) → (List (Seg T) → VCT) → VCT
  | [], k => k []
  | .c x :: r, k => forceSegs r fun r' => k (.c x :: r')
  | .r e n l :: r, k => forceSegs r fun r' => k (.r e n l :: r')
theorem forceSegs_eq (l : List (Seg T)) (k : List (Seg T) → VCT) : forceSegs l k = k l := by
  induction l generalizing k with
  | nil => rfl
  | cons x r ih => cases x <;> simp [forceSegs, ih]
def forceEnt : Ent T → (Ent T → VCT) → VCT
  | .B b t xs, k => forceSegs xs fun xs => k (.B b t xs)
  | .O x e l, k => k (.O x e l)
  | .F m, k => k (.F m)
  | .X, k => k .X
theorem forceEnt_eq (x : Ent T) (k : Ent T → VCT) : forceEnt x k = k x := by cases x <;> simp [forceEnt, forceSegs_eq]
def forceH : List (Ent T) → (List (Ent T) → VCT) → VCT
  | [], k => k []
  | x :: r, k => forceEnt x fun x => forceH r fun r' => k (x :: r')
theorem forceH_eq (l : List (Ent T)) (k : List (Ent T) → VCT) : forceH l k = k l := by
  induction l generalizing k with
  | nil => rfl
  | cons x r ih => simp [forceH, ih, forceEnt_eq]
def forceF (d : Option Tmp) (S : St T) (k : St T → VCT) : VCT := match d with
  | some d => forceP S.fr.t d fun t => k { fr := { length := S.fr.length, t := t }, H := S.H }
  | none => k S
theorem forceF_eq (d : Option Tmp) (S : St T) (k : St T → VCT) : forceF d S k = k S := by cases d <;> simp [forceF, forceP_eq]
def forceM (still : Bool) (S : St T) (k : St T → VCT) : VCT := cond still (k S) (forceH S.H fun H => k { fr := S.fr, H := H })
theorem forceM_eq (b : Bool) (S : St T) (k : St T → VCT) : forceM b S k = k S := by cases b <;> simp [forceM, forceH_eq]
def forceSt (S : St T) (k : St T → VCT) : VCT := forceFm S.fr.t fun t => forceH S.H fun H => k { fr := { length := S.fr.length, t := t }, H := H }
theorem forceSt_eq (S : St T) (k : St T → VCT) : forceSt S k = k S := by simp [forceSt, forceFm_eq, forceH_eq]
def guardSlot (ops : List Oper) (o : Oper) : Option Tmp := match o.guard with
  | none => none
  | some (j, _) => (ops[j]?).bind (·.dst)

/-- One operation, under its guard. -/
def guardx (ops : List Oper) (o : Oper) (S : St T) (run : St T → VCT) (skip : St T → VCT) : VCT :=
  match o.guard with
  | none => run S
  | some (j, want) => match (ops[j]?).bind (·.dst) with
    | some d => match S.get d with
      | some (.v (.bool t)) =>
        let yes := S.set (some d) (.v (.bool true))
        let no := S.set (some d) (.v (.bool false))
        if want then .br t (run yes) (skip (no.set o.dst .un)) else .br t (skip (yes.set o.dst .un)) (run no)
      | some .un => skip (S.set o.dst .un)
      | _ => .ff "a guard of which nothing is known"
    | none => .ff "a guard"

def opsx (C : Ctx T) (sp : Nat → Option (PT T)) (ops : List Oper) : List Oper → St T → (St T → VCT) → (SV T → St T → VCT) → VCT
  | [], S, K, _ => K S
  | o :: r, S, K, pan => guardx ops o S (fun S => forceF (guardSlot ops o) S fun S => opx C sp o S (fun S' => forceF o.dst S' fun S' => forceM (isStill o.op) S' fun S' => opsx C sp ops r S' K pan) pan) (fun S => forceF o.dst S fun S => opsx C sp ops r S K pan)
/-- Operations that leave memory alone, one behind the other. -/
def stillx (C : Ctx T) (ops : List Oper) : List Oper → St T → (St T → VCT) → VCT
  | [], S, K => K S
  | o :: r, S, K => guardx ops o S (fun S => forceF (guardSlot ops o) S fun S => stx C o S fun y => forceF o.dst (S.set o.dst y) fun S => stillx C ops r S K) (fun S => forceF o.dst S fun S => stillx C ops r S K)

def stillLen : List Oper → Nat
  | [] => 0
  | o :: r => if isStill o.op then stillLen r + 1 else 0

def regx (C : Ctx T) (sp : Nat → Option (PT T)) (ops : List Oper) (draw : Bool) (S : St T) (K : St T → VCT) (pan : SV T → St T → VCT) : VCT :=
  if draw then
    let n := stillLen ops
    if n = ops.length then stillx C ops ops S K
    else stillx C ops (ops.take n) S fun S' => opsx C sp ops (ops.drop n) S' K pan
  else opsx C sp ops ops S K pan

/-- A region that draws its order: whether the order makes no odds. -/
def lexR (ops : List Oper) : Bool := if stillLen ops = ops.length then Region.lexB .any ops.toArray else Region.lexTailB .any ops.toArray (stillLen ops)
def lexC : Code → Bool
  | .region _ ops draw => !draw || lexR ops.toList
  | .seq a b => lexC a && lexC b
  | .cond _ a b => lexC a && lexC b
  | .block _ b => lexC b
  | .loop b => lexC b
  | .scope b => lexC b
  | _ => true
def lexF (fn : Func) : Bool := match fn.body with
  | some c => lexC c
  | none => true

/-! What is claimed at a loop's head, or at a place where ways meet. -/
structure Inv (T : Tys) : Type 1 where
  X : Type
  phi : X → Prop
  fr : X → List (Nat × SV T)
  H : X → List (Nat × Ent T)
  mu : X → Nat
abbrev Ann (T : Tys) := Nat → St T → Option (Inv T)

def written : Code → List Tmp
  | .region _ ops _ => ops.toList.filterMap (·.dst)
  | .seq a b => written a ++ written b
  | .cond _ a b => written a ++ written b
  | .block _ b => written b
  | .loop b => written b
  | .scope b => written b
  | _ => []
def firstRegion : Code → Nat
  | .region i _ _ => i
  | .seq a _ => firstRegion a
  | .block _ b => firstRegion b
  | .loop b => 1000 + firstRegion b
  | .scope b => firstRegion b
  | .label l => 2000 + l
  | _ => 9999
def forgetAll : List Tmp → Fr T → Fr T
  | [], l => l
  | d :: r, l => forgetAll r (l.set d none)
def putFr : List (Nat × SV T) → Fr T → Fr T
  | [], l => l
  | (d, x) :: r, l => putFr r (l.set d (some x))
def putH : List (Nat × Ent T) → List (Ent T) → List (Ent T)
  | [], l => l
  | (d, x) :: r, l => putH r (l.set d x)
def Inv.at (I : Inv T) (ws : List Tmp) (S : St T) (x : I.X) : St T := { fr := putFr (I.fr x) (forgetAll ws S.fr), H := putH (I.H x) S.H }

mutual
def mSV : SV T → SV T → VCT → VCT
  | .un, .un, k => k
  | .v x, .v y, k => match x, y with
    | .int i a, .int j b => if i = j then .fact (a = b) k else .ff "match: kinds"
    | .bool a, .bool b => .fact (a = b) k
    | x, y => .fact (x = y) k
  | .p h b o, .p h' b' o', k => if h = h' then .fact (b = b' ∧ o = o') k else .ff "match: another entry"
  | .s h b e base lo len cap, .s h' b' e' base' lo' len' cap', k => if h = h' ∧ e = e' then .fact (b = b' ∧ base = base' ∧ lo = lo' ∧ len = len' ∧ cap = cap') k else .ff "match: another entry"
  | .o h e x n, .o h' e' x' n', k => if h = h' ∧ e = e' then .fact (x = x' ∧ n = n') k else .ff "match: another entry"
  | .ro e x l, .ro e' x' l', k => if h : e' = e then .fact (x = x' ∧ l = h ▸ l') k else .ff "match: another type"
  | .i t x, .i t' y, k => if t = t' then mSV x y k else .ff "match: another type"
  | .a xs, .a ys, k => mSegs xs ys k
  | .t xs, .t ys, k => mSVL xs ys k
  | .f fn a b, .f fn' a' b', k => if fn = fn' then mSVL a a' (mSVL b b' k) else .ff "match: another function"
  | _, _, _ => .ff "match: values of two makes"
def mSVL : List (SV T) → List (SV T) → VCT → VCT
  | [], [], k => k
  | x :: xs, y :: ys, k => mSV x y (mSVL xs ys k)
  | _, _, _ => .ff "match: lists"
def mSegs : List (Seg T) → List (Seg T) → VCT → VCT
  | [], [], k => k
  | .c x :: xs, .c y :: ys, k => mSV x y (mSegs xs ys k)
  | .r e n l :: xs, .r e' n' l' :: ys, k => if h : e' = e then .fact (n = n' ∧ l = h ▸ l') (mSegs xs ys k) else .ff "match: another type"
  | _, _, _ => .ff "match: pieces"
end
def mEnt : Ent T → Ent T → VCT → VCT
  | _, .X, k => k
  | .B b t xs, .B b' t' ys, k => if t = t' then .fact (b = b') (mSegs xs ys k) else .ff "match: another type"
  | .O x e l, .O x' e' l', k => if h : e' = e then .fact (x = x' ∧ l = h ▸ l') k else .ff "match: another type"
  | .F m, .F m', k => .fact (m = m') k
  | _, _, _ => .ff "match: entries of two makes"
def mFr (S : St T) : List (Nat × SV T) → VCT → VCT
  | [], k => k
  | (d, y) :: r, k => match S.get d with
    | some x => mSV x y (mFr S r k)
    | none => .ff "match: a slot of which nothing is known"
def mH : List (Ent T) → List (Ent T) → VCT → VCT
  | _, [], k => k
  | x :: xs, y :: ys, k => mEnt x y (mH xs ys k)
  | _, _, _ => .ff "match: entries"
def mSt (I : Inv T) (S S0 : St T) (x : I.X) (k : VCT) : VCT := mFr S (I.fr x) (mH S.H (putH (I.H x) S0.H) k)

def St.setB (S : St T) (x : Operand) (t : Bool) : St T := match x with
  | .tmp d => S.set (some d) (.v (.bool t))
  | _ => S

/-- The end of a round, or of a pass: the claim again, at a smaller measure. -/
def again (I : Inv T) (S : St T) (x : I.X) (S' : St T) : VCT := .ex I.X fun x' => .fact (I.phi x' ∧ I.mu x' < I.mu x) (mSt I S' S x' (.leaf True))
/-- Where ways meet first. -/
def meets (I : Inv T) (S : St T) (S' : St T) : VCT := .ex I.X fun x => .fact (I.phi x) (mSt I S' S x (.leaf True))

def codexB (C : Ctx T) (sp : Nat → Option (PT T)) (ann : Ann T) (rec : Code → St T → (Ex T → St T → VCT) → VCT) : Code → St T → (Ex T → St T → VCT) → VCT
  | .skip, S, K => K .normal S
  | .region _ ops draw, S, K => regx C sp ops.toList draw S (K .normal) (fun x S' => K (.panic x) S')
  | .seq a b, S, K => match ann (5000 + firstRegion b) S with
    | none => codexB C sp ann rec a S fun e S' => match e with
      | .normal => codexB C sp ann rec b S' K
      | e => K e S'
    | some I => .and (codexB C sp ann rec a S fun e S' => match e with
        | .normal => meets I S S'
        | e => K e S')
      (.all I.X fun x => .asm (I.phi x) (forceSt (I.at (written a) S x) fun S1 => codexB C sp ann rec b S1 K))
  | .cond c a b, S, K => match S.ev c with
    | some (.v (.bool t)) => .br t (codexB C sp ann rec a (S.setB c true) K) (codexB C sp ann rec b (S.setB c false) K)
    | _ => .ff "a test of which nothing is known"
  | .block id b, S, K => codexB C sp ann rec b S fun e S' => match e with
    | .exit i => if i = id then K .normal S' else K (.exit i) S'
    | e => K e S'
  | .loop b, S, K => match ann (firstRegion b) S with
    | some I => .ex I.X fun x0 => .fact (I.phi x0) (mSt I S S x0 (.all I.X fun x => .asm (I.phi x)
        (forceSt (I.at (written b) S x) fun S1 => codexB C sp ann rec b S1 fun e S' => match e with
          | .normal => again I S x S'
          | e => K e S')))
    | none => .ff "a loop without a claim"
  | .scope b, S, K => match ann (3000 + firstRegion b) S with
    | none => codexB C sp ann rec b S fun e S' => match e with
      | .goto _ => .ff "a jump"
      | e => K e S'
    | some I => match findLabel b 0 with
      | some rest => .and (codexB C sp ann rec b S fun e S' => match e with
          | .goto l => if l = 0 then meets I S S' else .ff "a jump elsewhere"
          | e => K e S')
        (.all I.X fun x => .asm (I.phi x) (forceSt (I.at (written b) S x) fun S1 => rec rest S1 fun e S' => match e with
          | .goto l => if l = 0 then again I S x S' else .ff "a jump elsewhere"
          | e => K e S'))
      | none => .ff "no label"
  | .exit i, S, K => K (.exit i) S
  | .goto l, S, K => K (.goto l) S
  | .label _, S, K => K .normal S
  | .ret, S, K => K .ret S
  | _, _, _ => .ff "a form of code that the generator lacks"
/-- The code's conditions; d: how deep scopes with jumps may stand in one another. -/
def codexD (C : Ctx T) (sp : Nat → Option (PT T)) (ann : Ann T) : Nat → Code → St T → (Ex T → St T → VCT) → VCT
  | 0 => codexB C sp ann fun _ _ _ => .ff "too deep"
  | d + 1 => codexB C sp ann (codexD C sp ann d)
def codex (C : Ctx T) (sp : Nat → Option (PT T)) (ann : Ann T) (c : Code) (S : St T) (K : Ex T → St T → VCT) : VCT := codexD C sp ann 2 c S K

def resK (C : Ctx T) (S : St T) : List ResultVar → (List (SV T) → VCT) → VCT
  | [], k => k []
  | .tmp t :: r, k => match S.get t with
    | some x => resK C S r fun l => k (x :: l)
    | none => .ff "results of which nothing is known"
  | .cell p ty :: r, k => match S.get p with
    | some x => ptrLoad C ty S x fun y => resK C S r fun l => k (y :: l)
    | none => .ff "results of which nothing is known"
def tupleOf : List (SV T) → SV T
  | [x] => x
  | l => .t l

def putArgs : List (SV T) → Nat → Fr T → Fr T
  | [], _, f => f
  | x :: r, i, f => putArgs r (i + 1) (f.set i (some x))
def start (fn : Func) (args : List (SV T)) (H : List (Ent T)) : St T :=
  { fr := putArgs args 0 { length := fn.ntmps, t := Fm.mk T (Nat.log2 fn.ntmps + 1) }, H := H }

/-- The conditions under which a function, called so, ends as K and Kp say. -/
def fnx (C : Ctx T) (sp : Nat → Option (PT T)) (ann : Ann T) (fn : Func) (args : List (SV T)) (H : List (Ent T))
    (K : SV T → List (Ent T) → VCT) (Kp : SV T → List (Ent T) → VCT) : VCT :=
  match fn.body with
  | some c => if args.length ≤ fn.ntmps then forceSt (start fn args H) fun S0 => codex C sp ann c S0 fun e S' => match e with
    | .normal | .ret => resK C S' fn.results.toList fun l => K (tupleOf l) S'.H
    | .panic x => Kp x S'.H
    | _ => .ff "an end that is none"
    else .ff "more arguments than slots"
  | none => .ff "no body"

end Go.Vg
