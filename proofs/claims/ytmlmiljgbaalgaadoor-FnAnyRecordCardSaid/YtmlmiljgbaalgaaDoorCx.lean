/- The definitions of a concrete executor of the model's code over an abstract heap: values of cells, frames as trees, operations, regions, loops, calls. -/
import Derived.Orders
import Derived.LoopN
import Derived.Laws.AppendOwn
import Derived.Laws.Rows
import Derived.Below
import Derived.Laws.MakeOwn
import Derived.Laws.BytesString
import Derived.Laws.CopyRow
import Derived.Lib.AppendStr
set_option linter.unusedSimpArgs false
set_option linter.unusedVariables false
namespace Go.CX

/-- A frame's or a heap's map from numbers: a binary tree. -/
inductive T (α : Type) where
  | nil
  | node (l : T α) (v : Option α) (r : T α)

def T.get {α : Type} : Nat → T α → Nat → Option α
  | 0, _, _ => none
  | _ + 1, .nil, _ => none
  | f + 1, .node l v r, n =>
    match n with
    | 0 => v
    | m + 1 => if m % 2 = 0 then T.get f l (m / 2) else T.get f r (m / 2)

def T.set {α : Type} : Nat → T α → Nat → Option α → T α
  | 0, t, _, _ => t
  | f + 1, .nil, n, x =>
    match n with
    | 0 => .node .nil x .nil
    | m + 1 => if m % 2 = 0 then .node (T.set f .nil (m / 2) x) none .nil else .node .nil none (T.set f .nil (m / 2) x)
  | f + 1, .node l v r, n, x =>
    match n with
    | 0 => .node l x r
    | m + 1 => if m % 2 = 0 then .node (T.set f l (m / 2) x) v r else .node l v (T.set f r (m / 2) x)

/-- How deep a tree goes. -/
def deep : Nat := 24

/-- What one cell holds. -/
inductive CV where
  | lit (v : Value)
  | sym (i : Nat)
  | ptr (b off : Nat)
  | sl (b off len : Nat) (cap : Option Nat)
  | fn (f : Fn) (caps : List (Nat × Nat))
  deriving Inhabited

/-- What a temporary holds. -/
inductive AV where
  | c (x : CV)
  | agg (l : List CV)
  | tup (l : List (Bool × List CV))
  deriving Inhabited

def AV.cells : AV → List CV
  | .c x => [x]
  | .agg l => l
  | .tup _ => []

def AV.isTup : AV → Bool
  | .tup _ => true
  | _ => false

def oneCell : Value → Bool
  | .agg _ | .tuple _ => false
  | _ => true

def lits : List Value → Option (List CV)
  | [] => some []
  | v :: r => if oneCell v then (lits r).map (CV.lit v :: ·) else none

/-- A value of the model without addresses, as a temporary's. -/
def ofValue : Value → Option AV
  | .agg cs => (lits cs.toList).map .agg
  | .tuple _ => none
  | v => some (.c (.lit v))

def unlits : List CV → Option (List Value)
  | [] => some []
  | .lit v :: r => (unlits r).map (v :: ·)
  | _ :: _ => none

/-- The value, where it is known whole. -/
def AV.known : AV → Option Value
  | .c (.lit v) => some v
  | .agg l => (unlits l).map fun vs => .agg vs.toArray
  | _ => none

structure Blk where
  e : TypeId
  xs : List CV
  /-- a slice's row whose capacity is not known: the size of its elements -/
  row : Option Nat

structure Heap where
  t : T Blk
  n : Nat

def Heap.get (h : Heap) (b : Nat) : Option Blk := h.t.get deep b
def Heap.put (h : Heap) (b : Nat) (k : Option Blk) : Heap := { h with t := h.t.set deep b k }
/-- A new block; its number is the old 'n'. -/
def Heap.new (h : Heap) (k : Blk) : Heap := { t := h.t.set deep h.n (some k), n := h.n + 1 }

structure St where
  fr : T AV
  h : Heap

def undefV : Option AV := none

inductive Ex where
  | norm | ret | exit (id : Nat)

section
variable (P : Program)

def pureRun {α : Type} : Sem α → Option α
  | .pure a => some a
  | .program k => pureRun (k P)
  | _ => none

def evalO (fr : T AV) : Operand → Option AV
  | .tmp t => fr.get deep t
  | .const v => ofValue v
  | .global _ => none
  | .func f => some (.c (.fn (.func f) []))

def evalOs (fr : T AV) : List Operand → Option (List AV)
  | [] => some []
  | x :: r => (evalO fr x).bind fun a => (evalOs fr r).map (a :: ·)

/-- The cells of a zero value of a type. -/
def zeroOf (t : TypeId) : Option AV := ((P.info? t).bind (·.zero)).bind ofValue
def sizeOfT (t : TypeId) : Option Nat := (P.info? t).map (·.size)

def isAggT (t : TypeId) : Option Bool :=
  match P.underlying t with
  | some (.struct _) | some (.array _ _) => some true
  | some _ => some false
  | none => none

/-- A part of a list of cells, as a value of a type. -/
def partT (t : TypeId) (cs : List CV) (off : Nat) : Option AV :=
  (isAggT P t).bind fun g =>
  if g then (sizeOfT P t).bind fun n => if off + n ≤ cs.length then some (.agg ((cs.drop off).take n)) else none
  else (cs[off]?).map .c

def loadT (h : Heap) (t : TypeId) : AV → Option AV
  | .c (.ptr b o) => (h.get b).bind fun k => partT P t k.xs o
  | _ => none

/-- A list with a few of its cells from a place on replaced. -/
def splice (xs : List CV) (o : Nat) (vs : List CV) : Option (List CV) :=
  if o + vs.length ≤ xs.length then some (xs.take o ++ vs ++ xs.drop (o + vs.length)) else none

def storeT (h : Heap) (t : TypeId) (p : AV) (x : AV) : Option Heap :=
  if x.isTup then none else
  match p with
  | .c (.ptr b o) => (sizeOfT P t).bind fun n => if x.cells.length = n then
      (h.get b).bind fun k => (splice k.xs o x.cells).map fun ys => h.put b (some { k with xs := ys })
    else none
  | _ => none

def fillL (place : Nat → Option (Nat × Nat)) (cells : List CV) : List (Nat × AV) → Option (List CV)
  | [] => some cells
  | (i, v) :: rest =>
    if v.isTup then none else
    (place i).bind fun p => if v.cells.length = p.2 then (splice cells p.1 v.cells).bind fun cs => fillL place cs rest else none

def placesOf (fields : List Go.Field) : Option (List (Nat × Nat)) :=
  fields.mapM fun f => (sizeOfT P f.type).map fun n => (f.offset, n)

def rep (n : Nat) (z : List CV) : List CV := (List.replicate n z).flatten

def idxOf : AV → Option Nat
  | .c (.lit (.int _ n)) => if 0 ≤ n then some n.toNat else none
  | _ => none

/-- 'x == nil' and its like between an address and nil. -/
def nilEq (t : TypeId) (x y : AV) : Option Bool :=
  match P.underlying t, x, y with
  | some (.pointer _), .c (.ptr _ _), .c (.lit (.pointer none)) => some false
  | some (.pointer _), .c (.lit (.pointer none)), .c (.ptr _ _) => some false
  | some (.slice _), .c (.sl ..), .c (.lit (.slice none _ _)) => some false
  | some (.slice _), .c (.lit (.slice none _ _)), .c (.sl ..) => some false
  | _, _, _ => none

def binO (op : BinOp) (t : TypeId) (xo yo : Operand) (x y : AV) : Option AV :=
  match x.known, y.known with
  | some v, some u => (pureRun P (do eqGuard op t xo yo v u; binOp op t v u)).bind ofValue
  | _, _ =>
    match op with
    | .eql => (nilEq P t x y).map fun b => .c (.lit (.bool b))
    | .neq => (nilEq P t x y).map fun b => .c (.lit (.bool (!b)))
    | _ => none

def convO (h : Heap) (src dst : TypeId) (x : AV) : Option (AV × Heap) :=
  x.known.bind fun v => (pureRun P (convert src dst v)).bind fun u => (ofValue u).map fun r => (r, h)

def optKnown (fr : T AV) : Option Operand → Option (Option Value)
  | none => some none
  | some x => (evalO fr x).bind fun a => a.known.map some

/-- A slice of a slice. -/
def sliceO (x : AV) (lo hi mx : Option Value) (t : TypeId) : Option AV :=
  match x with
  | .c (.sl b o n cap) =>
    match P.underlying t, mx with
    | some (.slice e), none =>
      match sizeOfT P e, cap with
      | some size, some c => (pureRun P (Instr.sliceBounds true n c lo hi none)).bind fun r =>
          if r.2.1 ≤ r.2.2 then (if r.2.2 = r.1 then some (.c (.sl b o (r.2.1 - r.1) (some 0))) else some (.c (.sl b (o + r.1 * size) (r.2.1 - r.1) (some (r.2.2 - r.1))))) else none
      | some _, none => (pureRun P (Instr.sliceBounds true n n lo hi none)).bind fun r =>
          if r.1 = 0 then some (.c (.sl b o r.2.1 none)) else none
      | _, _ => none
    | _, _ => none
  | _ => x.known.bind fun v => (pureRun P (Instr.sliceAt t v lo hi mx)).bind ofValue

def lenO (t : TypeId) (x : AV) : Option AV :=
  match x with
  | .c (.sl _ _ n _) => match P.underlying t with
    | some (.slice _) => some (.c (.lit (goInt n)))
    | _ => none
  | _ => x.known.bind fun v => (pureRun P (Builtin.len_ #[t] 0 #[v])).bind ofValue

/-- What is appended: the cells, and how many elements they are. -/
def appCells (h : Heap) (size : Nat) : AV → Option (List CV × Nat)
  | .c (.sl b o n _) => (h.get b).bind fun k => if o + n * size ≤ k.xs.length then some ((k.xs.drop o).take (n * size), n) else none
  | .c (.lit (.slice none n _)) => if n = 0 then some ([], 0) else none
  | .c (.lit (.string s)) => if size = 1 then some (s.data.toList.map fun b => .lit (.int .u8 b.toNat), s.size) else none
  | _ => none

/-- May this be appended: a slice of the same type, or a string. -/
def appKind (t xt : TypeId) : AV → Bool
  | .c (.lit (.string _)) => match P.underlying xt with
    | some .string => true
    | _ => false
  | _ => xt == t

/-- The most elements that an append of the executor's may come to. -/
def appMost : Nat := 1048576

/-- append: the old row is not spoken of again where something was appended. -/
def appendO (h : Heap) (ts : List TypeId) (s x : AV) : Option (AV × Heap) :=
  match ts with
  | [t, xt] =>
    match P.underlying t with
    | some (.slice e) =>
      if appKind P t xt x = false then none else
      (P.info? e).bind fun i => (i.zero.bind ofValue).bind fun z => if z.cells.length = i.size ∧ i.bytes ≤ 4096 ∧ !z.isTup then
      (appCells h i.size x).bind fun (cs, m) =>
      match s with
      | .c (.lit (.slice none 0 0)) =>
        if m = 0 then some (.c (.lit (.slice none 0 0)), h)
        else if m ≤ appMost then some (.c (.sl h.n 0 m none), h.new { e := e, xs := cs, row := some i.size }) else none
      | .c (.sl b o n cap) =>
        if m = 0 then some (.c (.sl b o n cap), h) else
        (h.get b).bind fun k =>
        if k.e = e ∧ o = 0 ∧ n * i.size ≤ k.xs.length ∧ n + m ≤ appMost ∧ 0 < i.size ∧ (k.row = some i.size ∧ cap = none ∨ k.row = none ∧ cap = some (k.xs.length / i.size) ∧ k.xs.length % i.size = 0 ∧ k.xs.length ≤ appMost) then
          some (.c (.sl h.n 0 (n + m) none), (h.put b none).new { e := e, xs := k.xs.take (n * i.size) ++ cs, row := some i.size })
        else none
      | _ => none
      else none
    | _ => none
  | _ => none

/-- make([]T, n, c) of known numbers. -/
def makeO (h : Heap) (t : TypeId) (l c : AV) : Option (AV × Heap) :=
  match P.underlying t, l, c with
  | some (.slice e), .c (.lit (.int _ n)), .c (.lit (.int _ m)) =>
    (P.info? e).bind fun i => (i.zero.bind ofValue).bind fun z =>
    if z.cells.length = i.size ∧ !z.isTup ∧ 0 ≤ n ∧ n ≤ m ∧ m ≤ 65536 ∧ i.bytes ≤ 4096 then
      some (.c (.sl h.n 0 n.toNat (some m.toNat)), h.new { e := e, xs := rep m.toNat z.cells, row := none })
    else none
  | _, _, _ => none

/-- copy(dst, src) between rows. -/
def copyO (h : Heap) (ts : List TypeId) (d s : AV) : Option (AV × Heap) :=
  match ts, d with
  | [t, _], .c (.sl b o n _) =>
    match P.underlying t with
    | some (.slice e) =>
      match sizeOfT P e, s with
      | some 1, .c (.sl b' o' m _) =>
        (h.get b').bind fun k' => if o' + m ≤ k'.xs.length then
          (h.get b).bind fun k => (splice k.xs o (((k'.xs.drop o').take m).take (min m n))).map fun ys => (.c (.lit (goInt (min m n))), h.put b (some { k with xs := ys }))
        else none
      | some _, .c (.lit (.slice none 0 0)) => some (.c (.lit (goInt 0)), h)
      | _, _ => none
    | _ => none
  | _, _ => none

def capPtrs : List AV → Option (List (Nat × Nat))
  | [] => some []
  | .c (.ptr b o) :: r => (capPtrs r).map ((b, o) :: ·)
  | _ :: _ => none

def fieldOffT (t : TypeId) (f : Nat) : Option Nat :=
  match P.underlying t with
  | some (.struct fs) => (fs[f]?).bind fun g => (sizeOfT P g.type).bind fun n => if n = 0 then none else some g.offset
  | _ => none

variable (call : FuncId → List AV → Heap → Option (AV × Heap))

/-- One operation: the value for its slot, and the heap. -/
def opX (fr : T AV) (h : Heap) (o : Oper) : Option (Option AV × Heap) :=
  let v (x : Option AV) : Option (Option AV × Heap) := x.map fun a => (some a, h)
  let vh (x : Option (AV × Heap)) : Option (Option AV × Heap) := x.map fun a => (some a.1, a.2)
  let ev := evalO fr
  match o.op with
  | .move x | .assign x => v (ev x)
  | .pick c a b => match ev c with
    | some (.c (.lit (.bool t))) => v (if t then ev a else ev b)
    | _ => none
  | .alloc e => (zeroOf P e).bind fun z => if z.isTup then none else some (some (.c (.ptr h.n 0)), h.new { e := e, xs := z.cells, row := none })
  | .box e x => (ev x).bind fun z => if z.isTup then none else some (some (.c (.ptr h.n 0)), h.new { e := e, xs := z.cells, row := none })
  | .build t parts => (evalOs fr (parts.toList.map (·.2))).bind fun vs => (zeroOf P t).bind fun z => if z.isTup then none else
    match P.underlying t with
    | some (.struct fs) => (placesOf P fs.toList).bind fun pl => (fillL (pl[·]?) z.cells ((parts.toList.map (·.1)).zip vs)).map fun cs => (some (.agg cs), h)
    | some (.array _ e) => (sizeOfT P e).bind fun n => (fillL (fun i => some (i * n, n)) z.cells ((parts.toList.map (·.1)).zip vs)).map fun cs => (some (.agg cs), h)
    | _ => none
  | .buildSlice t len parts => (evalOs fr (parts.toList.map (·.2))).bind fun vs =>
    match P.underlying t with
    | some (.slice e) => (P.info? e).bind fun i => (i.zero.bind ofValue).bind fun z =>
      if z.cells.length = i.size ∧ !z.isTup ∧ len * i.size ≤ 65536 then
        (fillL (fun j => some (j * i.size, i.size)) (rep len z.cells) ((parts.toList.map (·.1)).zip vs)).map fun cs =>
          (some (.c (.sl h.n 0 len (some len))), h.new { e := e, xs := cs, row := none })
      else none
    | _ => none
  | .load t a => v ((ev a).bind (loadT P h t))
  | .store t a x => (ev a).bind fun p => (ev x).bind fun y => (storeT P h t p y).map fun h' => (none, h')
  | .nilCheck x => match ev x with
    | some (.c (.ptr b o)) => v (some (.c (.ptr b o)))
    | _ => none
  | .binOp op t x y _ => (ev x).bind fun a => (ev y).bind fun b => v (binO P op t x y a b)
  | .unOp op _ x => (ev x).bind fun a => a.known.bind fun u => v ((pureRun P (Op.unary op u)).bind ofValue)
  | .convert s d x => (ev x).bind fun a => vh (convO P h s d a)
  | .makeFunc f first caps => if first.size = 0 then (evalOs fr caps.toList).bind fun vs => (capPtrs vs).map fun ps => (some (.c (.fn f ps)), h) else none
  | .makeSlice t l c => (ev l).bind fun a => (ev c).bind fun b => vh (makeO P h t a b)
  | .slice t x lo hi mx => (ev x).bind fun a => (optKnown fr lo).bind fun l => (optKnown fr hi).bind fun u => (optKnown fr mx).bind fun m => v (sliceO P a l u m t)
  | .fieldAddr s x f => match ev x with
    | some (.c (.ptr b o)) => (fieldOffT P s f).bind fun d => v (some (.c (.ptr b (o + d))))
    | _ => none
  | .field t x f => match ev x, P.underlying t with
    | some (.agg cs), some (.struct fs) => (fs[f]?).bind fun g => v (partT P g.type cs g.offset)
    | _, _ => none
  | .indexAddr t x i => match P.underlying t, ev x, (ev i).bind idxOf with
    | some (.slice e), some (.c (.sl b o n _)), some j => if j < n then (sizeOfT P e).bind fun s => v (some (.c (.ptr b (o + j * s)))) else none
    | some (.array n e), some (.c (.ptr b o)), some j => if j < n then (sizeOfT P e).bind fun s => v (some (.c (.ptr b (o + j * s)))) else none
    | _, _, _ => none
  | .index t x i => (ev x).bind fun a => (ev i).bind fun b => a.known.bind fun u => b.known.bind fun w => v ((pureRun P (Instr.index t u w)).bind ofValue)
  | .extract x i => match ev x with
    | some (.tup l) => match l[i]? with
      | some (true, cs) => v (some (.agg cs))
      | some (false, [y]) => v (some (.c y))
      | _ => none
    | _ => none
  | .call c =>
    match c.callee with
    | .builtin .len => match c.argTypes.toList, c.args.toList with
      | t :: _, [x] => (ev x).bind fun a => v (lenO P t a)
      | _, _ => none
    | .builtin .append => match c.args.toList with
      | [s, x] => (ev s).bind fun a => (ev x).bind fun b => vh (appendO P h c.argTypes.toList a b)
      | _ => none
    | .builtin .copy => match c.args.toList with
      | [s, x] => (ev s).bind fun a => (ev x).bind fun b => vh (copyO P h c.argTypes.toList a b)
      | _ => none
    | .builtin .min => (evalOs fr c.args.toList).bind fun vs => (vs.mapM AV.known).bind fun us => v ((pureRun P (Builtin.min_ c.argTypes 0 us.toArray)).bind ofValue)
    | .builtin .max => (evalOs fr c.args.toList).bind fun vs => (vs.mapM AV.known).bind fun us => v ((pureRun P (Builtin.max_ c.argTypes 0 us.toArray)).bind ofValue)
    | .value g => match ev g with
      | some (.c (.fn (.func f) ps)) => (evalOs fr c.args.toList).bind fun vs => vh (call f (vs ++ ps.map fun (b, o) => .c (.ptr b o)) h)
      | _ => none
    | _ => none
  | _ => none

def guardX (ops : Array Oper) (fr : T AV) (o : Oper) : Option Bool :=
  match o.guard with
  | none => some true
  | some (j, want) => match ((ops[j]?).bind (·.dst)).bind (fr.get deep) with
    | some (.c (.lit (.bool b))) => some (b == want)
    | some (.tup []) => some false
    | _ => none

def putX (fr : T AV) (dst : Option Tmp) (x : Option AV) : T AV :=
  match dst with
  | some d => fr.set deep d x
  | none => fr

def dstOk (nt : Nat) : Option Tmp → Bool
  | some d => Nat.blt d nt
  | none => true

/-- Operations one after the other; the states ahead of each, too. -/
def opsX (nt : Nat) (ops : Array Oper) : List Oper → St → Option (St × List St)
  | [], st => some (st, [])
  | o :: r, st =>
    if dstOk nt o.dst then
      match guardX ops st.fr o with
      | some true => match opX P call st.fr st.h o with
        | some (x, h) => match opsX nt ops r { fr := putX st.fr o.dst x, h := h } with
          | some (s, l) => some (s, st :: l)
          | none => none
        | none => none
      | some false => match opsX nt ops r { st with fr := putX st.fr o.dst (some (.tup [])) } with
        | some (s, l) => some (s, st :: l)
        | none => none
      | none => none
    else none

def loopX (f : St → Option (Ex × St)) : Nat → St → Option (Ex × St)
  | 0, _ => none
  | n + 1, st => match f st with
    | some (.norm, st') => loopX f n st'
    | r => r

def actCall : Callee → Bool
  | .builtin .len | .builtin .min | .builtin .max => false
  | _ => true

/-- May an operation change the heap, or hang on what others do with it? -/
def isChain (o : Oper) : Bool :=
  match o.op with
  | .alloc _ | .box .. | .buildSlice .. | .store .. | .makeSlice .. => true
  | .call c => actCall c.callee
  | _ => false

def isLoad (o : Oper) : Bool :=
  match o.op with
  | .load .. => true
  | _ => false

def depsOf (o : Oper) : List Nat := (o.after.toList.filter (Region.binds .any)).map (·.on)

/-- Must operation i have been done ahead of operation j? -/
def reaches (ops : Array Oper) : Nat → Nat → Nat → Bool
  | 0, _, _ => false
  | f + 1, j, i => match ops[j]? with
    | some o => (depsOf o).any fun d => d == i || reaches ops f d i
    | none => false

def sameV : Value → Value → Bool
  | .int j a, .int k b => decide (j = k) && decide (a = b)
  | .bool a, .bool b => a == b
  | .string a, .string b => decide (a = b)
  | .slice none 0 0, .slice none 0 0 => true
  | .pointer none, .pointer none => true
  | .map none, .map none => true
  | .nilIface, .nilIface => true
  | .nilFunc, .nilFunc => true
  | _, _ => false

def sameC : CV → CV → Bool
  | .lit a, .lit b => sameV a b
  | .sym a, .sym b => a == b
  | .ptr a b, .ptr c d => a == c && b == d
  | .sl a b c d, .sl e f g k => a == e && b == f && c == g && decide (d = k)
  | _, _ => false

def sameL : List CV → List CV → Bool
  | [], [] => true
  | a :: r, b :: s => sameC a b && sameL r s
  | _, _ => false

def sameA : AV → AV → Bool
  | .c a, .c b => sameC a b
  | .agg a, .agg b => sameL a b
  | _, _ => false

def loadsSame (ops : Array Oper) (sts : List St) (o : Oper) (j : Nat) : Bool :=
  match o.op with
  | .load t x => match sts[j]? with
    | some s => match guardX ops s.fr o with
      | some false => true
      | _ => match evalO s.fr x with
        | some p => match loadT P s.h t p with
          | some y => (List.range sts.length).all fun c =>
            !(ops.toList.zipIdx.all fun q => !(isChain q.1 && reaches ops 12 j q.2) || Nat.blt q.2 c) ||
            (match sts[c]? with
              | some s' => match loadT P s'.h t p with
                | some y' => sameA y y'
                | none => false
              | none => true)
          | none => false
        | none => false
    | none => false
  | _ => true

/-- In whatever order a region's operations are done, they do the same. -/
def drawOk (ops : Array Oper) (sts : List St) : Bool :=
  ops.toList.zipIdx.all fun p =>
    (depsOf p.1).all (fun d => Nat.blt d p.2) &&
    (ops.toList.zipIdx.all fun q =>
      (q.2 == p.2 || q.1.dst.isNone || decide (q.1.dst ≠ p.1.dst)) &&
      (match q.1.dst with
        | some d => !(p.1.looksAt ops).contains d || (depsOf p.1).contains q.2 || (depsOf q.1).contains p.2
        | none => true) &&
      (!(isChain p.1 && isChain q.1 && Nat.blt q.2 p.2) || reaches ops 12 p.2 q.2)) &&
    loadsSame P ops sts p.1 p.2

def regionX (nt : Nat) (ops : Array Oper) (draw : Bool) (st : St) : Option St :=
  match opsX P call nt ops ops.toList st with
  | some (s, l) => if draw then (if drawOk P ops (l ++ [s]) then some s else none) else some s
  | none => none

def codeX (nt rounds : Nat) : Code → St → Option (Ex × St)
  | .skip, st => some (.norm, st)
  | .label _, st => some (.norm, st)
  | .ret, st => some (.ret, st)
  | .exit id, st => some (.exit id, st)
  | .seq a b, st => match codeX nt rounds a st with
    | some (.norm, st') => codeX nt rounds b st'
    | r => r
  | .cond c a b, st => match evalO st.fr c with
    | some (.c (.lit (.bool true))) => codeX nt rounds a st
    | some (.c (.lit (.bool false))) => codeX nt rounds b st
    | _ => none
  | .block id b, st => match codeX nt rounds b st with
    | some (.exit i, st') => if i = id then some (.norm, st') else some (.exit i, st')
    | r => r
  | .loop b, st => loopX (codeX nt rounds b) rounds st
  | .region _ ops d, st => match regionX P call nt ops d st with
    | some st' => some (.norm, st')
    | none => none
  | _, _ => none

end

section
variable (P : Program)

def argsX : List AV → Nat → T AV → T AV
  | [], _, t => t
  | x :: r, n, t => argsX r (n + 1) (t.set deep n (some x))

def tupOf : List AV → Option (List (Bool × List CV))
  | [] => some []
  | .c x :: r => (tupOf r).map ((false, [x]) :: ·)
  | .agg l :: r => (tupOf r).map ((true, l) :: ·)
  | .tup _ :: _ => none

def resultsX (st : St) : List ResultVar → Option (List AV)
  | [] => some []
  | .tmp t :: r => (st.fr.get deep t).bind fun x => (resultsX st r).map (x :: ·)
  | .cell a t :: r => ((st.fr.get deep a).bind (loadT P st.h t)).bind fun x => (resultsX st r).map (x :: ·)

def resOf : List AV → Option AV
  | [x] => some x
  | l => (tupOf l).map .tup

def finish (rs : List ResultVar) (st : St) : Option (AV × Heap) :=
  match (resultsX P st rs).bind resOf with
  | some x => some (x, st.h)
  | none => none

/-- A call, so and so deep. 'orc' answers for some functions. -/
def run (orc : FuncId → List AV → Option AV) (rounds : Nat) : Nat → FuncId → List AV → Heap → Option (AV × Heap)
  | 0, _, _, _ => none
  | n + 1, f, args, h =>
    match orc f args with
    | some r => some (r, h)
    | none => match P.funcs[f]? with
      | some fn => match fn.body with
        | some c => if args.length ≤ fn.ntmps then
            match codeX P (run orc rounds n) fn.ntmps rounds c { fr := argsX args 0 .nil, h := h } with
            | some (.norm, st) => finish P fn.results.toList st
            | some (.ret, st) => finish P fn.results.toList st
            | _ => none
          else none
        | none => none
      | none => none

end
end Go.CX

/- What the executor's words mean: values under a valuation, heaps, frames; the laws of single operations. -/
namespace Go.CX
open Go.RowKit (Below)

/-- Of each block of the executor's: its number in the world, its capacity in elements. -/
abbrev Vn := List (Nat × Nat)

/-! Trees. -/
theorem T.get_nil {α : Type} (f n : Nat) : T.get f (T.nil : T α) n = none := by cases f <;> rfl

theorem T.get_set {α : Type} : ∀ (f : Nat) (t : T α) (n : Nat) (x : Option α) (m : Nat) (y : α), T.get f (T.set f t n x) m = some y →
    (m = n ∧ x = some y) ∨ (m ≠ n ∧ T.get f t m = some y) := by
  intro f
  induction f with
  | zero => intro t n x m y h; simp [T.get] at h
  | succ f ih =>
    intro t n x m y h
    cases t with
    | nil =>
      cases n with
      | zero =>
        cases m with
        | zero => simp [T.set, T.get] at h; exact .inl ⟨rfl, h⟩
        | succ m => simp only [T.set, T.get, T.get_nil] at h; split at h <;> cases h
      | succ n =>
        cases m with
        | zero => simp only [T.set] at h; split at h <;> simp [T.get] at h
        | succ m =>
          simp only [T.set] at h
          split at h <;> rename_i hn
          · simp only [T.get] at h
            split at h <;> rename_i hm
            · rcases ih _ _ _ _ _ h with ⟨h1, h2⟩ | ⟨_, h2⟩
              · exact .inl ⟨by omega, h2⟩
              · rw [T.get_nil] at h2; cases h2
            · rw [T.get_nil] at h; cases h
          · simp only [T.get] at h
            split at h <;> rename_i hm
            · rw [T.get_nil] at h; cases h
            · rcases ih _ _ _ _ _ h with ⟨h1, h2⟩ | ⟨_, h2⟩
              · exact .inl ⟨by omega, h2⟩
              · rw [T.get_nil] at h2; cases h2
    | node l v r =>
      cases n with
      | zero =>
        cases m with
        | zero => simp [T.set, T.get] at h; exact .inl ⟨rfl, h⟩
        | succ m => exact .inr ⟨by omega, by simpa [T.set, T.get] using h⟩
      | succ n =>
        cases m with
        | zero =>
          refine .inr ⟨by omega, ?_⟩
          simp only [T.set] at h
          split at h <;> simpa [T.get] using h
        | succ m =>
          simp only [T.set] at h
          split at h <;> rename_i hn
          · simp only [T.get] at h ⊢
            split at h <;> rename_i hm
            · rw [if_pos hm]
              rcases ih _ _ _ _ _ h with ⟨h1, h2⟩ | ⟨h1, h2⟩
              · exact .inl ⟨by omega, h2⟩
              · exact .inr ⟨by omega, h2⟩
            · rw [if_neg hm]
              exact .inr ⟨by omega, h⟩
          · simp only [T.get] at h ⊢
            split at h <;> rename_i hm
            · rw [if_pos hm]
              exact .inr ⟨by omega, h⟩
            · rw [if_neg hm]
              rcases ih _ _ _ _ _ h with ⟨h1, h2⟩ | ⟨h1, h2⟩
              · exact .inl ⟨by omega, h2⟩
              · exact .inr ⟨by omega, h2⟩

/-! Values. -/
section
variable (σ : Nat → Value)

def ptrsVal (V : Vn) : List (Nat × Nat) → Option (List Value)
  | [] => some []
  | bo :: r => (V[bo.1]?).bind fun p => (ptrsVal V r).map (Value.pointer (some ⟨p.1, bo.2, none⟩) :: ·)

def CV.val (V : Vn) : CV → Option Value
  | .lit v => if oneCell v then some v else none
  | .sym i => if oneCell (σ i) then some (σ i) else none
  | .ptr b o => (V[b]?).map fun p => .pointer (some ⟨p.1, o, none⟩)
  | .sl b o n (some c) => if n ≤ c then (V[b]?).map fun p => .slice (some ⟨p.1, o, none⟩) n c else none
  | .sl b o n none => (V[b]?).bind fun p => if n ≤ p.2 then some (.slice (some ⟨p.1, o, none⟩) n p.2) else none
  | .fn f cs => (ptrsVal V cs).map fun vs => .func f #[] vs.toArray

def vals (V : Vn) : List CV → Option (List Value)
  | [] => some []
  | x :: r => (x.val σ V).bind fun v => (vals V r).map (v :: ·)

def tupVal (V : Vn) : List (Bool × List CV) → Option (List Value)
  | [] => some []
  | (true, cs) :: r => (vals σ V cs).bind fun vs => (tupVal V r).map (Value.agg vs.toArray :: ·)
  | (false, [x]) :: r => (x.val σ V).bind fun v => (tupVal V r).map (v :: ·)
  | _ :: _ => none

def AV.val (V : Vn) : AV → Option Value
  | .c x => x.val σ V
  | .agg l => (vals σ V l).map fun vs => .agg vs.toArray
  | .tup l => (tupVal σ V l).map fun vs => .tuple vs.toArray

def avals (V : Vn) : List AV → Option (List Value)
  | [] => some []
  | x :: r => (x.val σ V).bind fun v => (avals V r).map (v :: ·)

variable {σ}

/-- The valuation has grown. -/
def Ext (V V' : Vn) : Prop := ∃ t, V' = V ++ t
theorem Ext.refl (V : Vn) : Ext V V := ⟨[], by simp⟩
theorem Ext.trans {a b c : Vn} (h : Ext a b) (k : Ext b c) : Ext a c := by
  obtain ⟨x, rfl⟩ := h; obtain ⟨y, rfl⟩ := k; exact ⟨x ++ y, by simp⟩
theorem Ext.snoc (V : Vn) (x : Nat × Nat) : Ext V (V ++ [x]) := ⟨[x], rfl⟩
theorem Ext.get {V V' : Vn} (h : Ext V V') {b : Nat} {p : Nat × Nat} (hp : V[b]? = some p) : V'[b]? = some p := by
  obtain ⟨t, rfl⟩ := h
  rw [List.getElem?_append_left (List.getElem?_eq_some_iff.1 hp).1]; exact hp

theorem ptrsVal_ext {V V' : Vn} (h : Ext V V') : ∀ {l : List (Nat × Nat)} {vs : List Value}, ptrsVal V l = some vs → ptrsVal V' l = some vs := by
  intro l
  induction l with
  | nil => intro vs hv; exact hv
  | cons x r ih =>
    intro vs hv
    simp only [ptrsVal, Option.bind_eq_some_iff, Option.map_eq_some_iff] at hv ⊢
    obtain ⟨p, hp, us, hu, rfl⟩ := hv
    exact ⟨p, h.get hp, us, ih hu, rfl⟩

theorem CV.val_ext {V V' : Vn} (h : Ext V V') {x : CV} {v : Value} (hv : x.val σ V = some v) : x.val σ V' = some v := by
  cases x with
  | lit v => exact hv
  | sym i => exact hv
  | ptr b o =>
    simp only [CV.val, Option.map_eq_some_iff] at hv ⊢
    obtain ⟨p, hp, rfl⟩ := hv
    exact ⟨p, h.get hp, rfl⟩
  | sl b o n c =>
    cases c with
    | none =>
      simp only [CV.val, Option.bind_eq_some_iff] at hv ⊢
      obtain ⟨p, hp, hh⟩ := hv
      exact ⟨p, h.get hp, hh⟩
    | some c =>
      simp only [CV.val] at hv ⊢
      split at hv
      · rename_i hc
        rw [if_pos hc]
        simp only [Option.map_eq_some_iff] at hv ⊢
        obtain ⟨p, hp, rfl⟩ := hv
        exact ⟨p, h.get hp, rfl⟩
      · cases hv
  | fn f cs =>
    simp only [CV.val, Option.map_eq_some_iff] at hv ⊢
    obtain ⟨vs, hp, rfl⟩ := hv
    exact ⟨vs, ptrsVal_ext h hp, rfl⟩

theorem vals_ext {V V' : Vn} (h : Ext V V') : ∀ {l : List CV} {vs : List Value}, vals σ V l = some vs → vals σ V' l = some vs := by
  intro l
  induction l with
  | nil => intro vs hv; exact hv
  | cons x r ih =>
    intro vs hv
    simp only [vals, Option.bind_eq_some_iff, Option.map_eq_some_iff] at hv ⊢
    obtain ⟨v, hp, us, hu, rfl⟩ := hv
    exact ⟨v, CV.val_ext h hp, us, ih hu, rfl⟩

theorem tupVal_ext {V V' : Vn} (h : Ext V V') : ∀ {l : List (Bool × List CV)} {vs : List Value}, tupVal σ V l = some vs → tupVal σ V' l = some vs := by
  intro l
  induction l with
  | nil => intro vs hv; exact hv
  | cons x r ih =>
    intro vs hv
    obtain ⟨g, cs⟩ := x
    cases g with
    | true =>
      simp only [tupVal, Option.bind_eq_some_iff, Option.map_eq_some_iff] at hv ⊢
      obtain ⟨v, hp, us, hu, rfl⟩ := hv
      exact ⟨v, vals_ext h hp, us, ih hu, rfl⟩
    | false =>
      match cs, hv with
      | [], hv => simp [tupVal] at hv
      | [y], hv =>
        simp only [tupVal, Option.bind_eq_some_iff, Option.map_eq_some_iff] at hv ⊢
        obtain ⟨v, hp, us, hu, rfl⟩ := hv
        exact ⟨v, CV.val_ext h hp, us, ih hu, rfl⟩
      | _ :: _ :: _, hv => simp [tupVal] at hv

theorem AV.val_ext {V V' : Vn} (h : Ext V V') {x : AV} {v : Value} (hv : x.val σ V = some v) : x.val σ V' = some v := by
  cases x with
  | c x => exact CV.val_ext h hv
  | agg l =>
    simp only [AV.val, Option.map_eq_some_iff] at hv ⊢
    obtain ⟨vs, hp, rfl⟩ := hv
    exact ⟨vs, vals_ext h hp, rfl⟩
  | tup l =>
    simp only [AV.val, Option.map_eq_some_iff] at hv ⊢
    obtain ⟨vs, hp, rfl⟩ := hv
    exact ⟨vs, tupVal_ext h hp, rfl⟩

theorem avals_ext {V V' : Vn} (h : Ext V V') : ∀ {l : List AV} {vs : List Value}, avals σ V l = some vs → avals σ V' l = some vs := by
  intro l
  induction l with
  | nil => intro vs hv; exact hv
  | cons x r ih =>
    intro vs hv
    simp only [avals, Option.bind_eq_some_iff, Option.map_eq_some_iff] at hv ⊢
    obtain ⟨v, hp, us, hu, rfl⟩ := hv
    exact ⟨v, AV.val_ext h hp, us, ih hu, rfl⟩

theorem CV.val_one {V : Vn} {x : CV} {v : Value} (hv : x.val σ V = some v) : v.oneCell' = true := by
  cases x with
  | lit u => simp only [CV.val] at hv; split at hv <;> cases hv; cases v <;> simp_all [oneCell, Value.oneCell']
  | sym i => simp only [CV.val] at hv; split at hv <;> cases hv; rename_i h; revert h; generalize σ i = u; cases u <;> simp [oneCell, Value.oneCell']
  | ptr b o => simp only [CV.val, Option.map_eq_some_iff] at hv; obtain ⟨p, _, rfl⟩ := hv; rfl
  | sl b o n c =>
    cases c with
    | none => simp only [CV.val, Option.bind_eq_some_iff] at hv; obtain ⟨p, _, h⟩ := hv; split at h <;> cases h; rfl
    | some c => simp only [CV.val] at hv; split at hv; (simp only [Option.map_eq_some_iff] at hv; obtain ⟨p, _, rfl⟩ := hv; rfl); cases hv
  | fn f cs => simp only [CV.val, Option.map_eq_some_iff] at hv; obtain ⟨vs, _, rfl⟩ := hv; rfl

theorem vals_one {V : Vn} : ∀ {l : List CV} {vs : List Value}, vals σ V l = some vs → ∀ v ∈ vs, v.oneCell' = true := by
  intro l
  induction l with
  | nil => intro vs hv; simp [vals] at hv; subst hv; simp
  | cons x r ih =>
    intro vs hv
    simp only [vals, Option.bind_eq_some_iff, Option.map_eq_some_iff] at hv
    obtain ⟨v, hp, us, hu, rfl⟩ := hv
    intro u hu'
    rcases List.mem_cons.1 hu' with rfl | h
    · exact CV.val_one hp
    · exact ih hu u h

theorem vals_length {V : Vn} : ∀ {l : List CV} {vs : List Value}, vals σ V l = some vs → vs.length = l.length := by
  intro l
  induction l with
  | nil => intro vs hv; simp [vals] at hv; subst hv; rfl
  | cons x r ih =>
    intro vs hv
    simp only [vals, Option.bind_eq_some_iff, Option.map_eq_some_iff] at hv
    obtain ⟨v, hp, us, hu, rfl⟩ := hv
    simp [ih hu]

theorem vals_append {V : Vn} : ∀ {l m : List CV} {vs us : List Value}, vals σ V l = some vs → vals σ V m = some us → vals σ V (l ++ m) = some (vs ++ us) := by
  intro l
  induction l with
  | nil => intro m vs us h1 h2; simp [vals] at h1; subst h1; simpa using h2
  | cons x r ih =>
    intro m vs us h1 h2
    simp only [vals, List.cons_append, Option.bind_eq_some_iff, Option.map_eq_some_iff] at h1 ⊢
    obtain ⟨v, hp, ws, hu, rfl⟩ := h1
    exact ⟨v, hp, ws ++ us, ih hu h2, rfl⟩

theorem vals_take {V : Vn} (n : Nat) : ∀ {l : List CV} {vs : List Value}, vals σ V l = some vs → vals σ V (l.take n) = some (vs.take n) := by
  induction n with
  | zero => intro l vs h; simp [vals]
  | succ n ih =>
    intro l vs h
    cases l with
    | nil => simp [vals] at h; subst h; simp [vals]
    | cons x r =>
      simp only [vals, List.take_succ_cons, Option.bind_eq_some_iff, Option.map_eq_some_iff] at h ⊢
      obtain ⟨v, hp, ws, hu, rfl⟩ := h
      exact ⟨v, hp, ws.take n, ih hu, by simp⟩

theorem vals_drop {V : Vn} (n : Nat) : ∀ {l : List CV} {vs : List Value}, vals σ V l = some vs → vals σ V (l.drop n) = some (vs.drop n) := by
  induction n with
  | zero => intro l vs h; simpa using h
  | succ n ih =>
    intro l vs h
    cases l with
    | nil => simp [vals] at h; subst h; simp [vals]
    | cons x r =>
      simp only [vals, Option.bind_eq_some_iff, Option.map_eq_some_iff] at h
      obtain ⟨v, hp, ws, hu, rfl⟩ := h
      simpa using ih hu

theorem vals_get {V : Vn} : ∀ {l : List CV} {vs : List Value}, vals σ V l = some vs → ∀ {i : Nat} {x : CV}, l[i]? = some x → ∃ v, vs[i]? = some v ∧ x.val σ V = some v := by
  intro l
  induction l with
  | nil => intro vs h i x hx; simp at hx
  | cons y r ih =>
    intro vs h i x hx
    simp only [vals, Option.bind_eq_some_iff, Option.map_eq_some_iff] at h
    obtain ⟨v, hp, ws, hu, rfl⟩ := h
    cases i with
    | zero => simp at hx; subst hx; exact ⟨v, by simp, hp⟩
    | succ i => simpa using ih hu (by simpa using hx)

theorem vals_flat {V : Vn} {z : List CV} {vs : List Value} (h : vals σ V z = some vs) : ∀ n, vals σ V (rep n z) = some (List.replicate n vs).flatten := by
  intro n
  induction n with
  | zero => simp [rep, vals]
  | succ n ih => simp only [rep, List.replicate_succ, List.flatten_cons] at ih ⊢; exact vals_append h ih

theorem lits_val (V : Vn) : ∀ {l : List Value} {cs : List CV}, lits l = some cs → vals σ V cs = some l := by
  intro l
  induction l with
  | nil => intro cs h; simp [lits] at h; subst h; rfl
  | cons v r ih =>
    intro cs h
    simp only [lits] at h
    split at h
    · rename_i ho
      simp only [Option.map_eq_some_iff] at h
      obtain ⟨ds, hd, rfl⟩ := h
      simp [vals, CV.val, ho, ih hd]
    · cases h

theorem ofValue_val (V : Vn) {v : Value} {x : AV} (h : ofValue v = some x) : x.val σ V = some v := by
  cases v with
  | agg cs =>
    simp only [ofValue, Option.map_eq_some_iff] at h
    obtain ⟨ds, hd, rfl⟩ := h
    simp [AV.val, lits_val V hd]
  | tuple vs => simp [ofValue] at h
  | _ => simp only [ofValue, Option.some.injEq] at h; subst h; rfl

theorem ofValue_notTup {v : Value} {x : AV} (h : ofValue v = some x) : x.isTup = false := by
  cases v with
  | agg cs => simp only [ofValue, Option.map_eq_some_iff] at h; obtain ⟨ds, hd, rfl⟩ := h; rfl
  | tuple vs => simp [ofValue] at h
  | _ => simp only [ofValue, Option.some.injEq] at h; subst h; rfl

theorem unlits_val {V : Vn} : ∀ {l : List CV} {us vs : List Value}, unlits l = some us → vals σ V l = some vs → vs = us := by
  intro l
  induction l with
  | nil => intro us vs h1 h2; simp [unlits] at h1; simp [vals] at h2; rw [h2, h1]
  | cons x r ih =>
    intro us vs h1 h2
    cases x with
    | lit v =>
      simp only [unlits, Option.map_eq_some_iff] at h1
      obtain ⟨ws, hw, rfl⟩ := h1
      simp only [vals, Option.bind_eq_some_iff, Option.map_eq_some_iff] at h2
      obtain ⟨v', hv, ts, ht, rfl⟩ := h2
      simp only [CV.val] at hv
      split at hv <;> cases hv
      rw [ih hw ht]
    | _ => simp [unlits] at h1

theorem known_val {V : Vn} {x : AV} {u v : Value} (h1 : x.known = some u) (h2 : x.val σ V = some v) : v = u := by
  cases x with
  | c x =>
    cases x with
    | lit w => simp only [AV.known, Option.some.injEq] at h1; simp only [AV.val, CV.val] at h2; split at h2 <;> cases h2; exact h1
    | _ => simp [AV.known] at h1
  | agg l =>
    simp only [AV.known, AV.val, Option.map_eq_some_iff] at h1 h2
    obtain ⟨us, hu, rfl⟩ := h1
    obtain ⟨vs, hv, rfl⟩ := h2
    rw [unlits_val hu hv]
  | tup l => simp [AV.known] at h1

/-- The cells of a value that is no tuple. -/
theorem cells_val {V : Vn} {x : AV} {v : Value} (ht : x.isTup = false) (h : x.val σ V = some v) : vals σ V x.cells = some v.cells.toList := by
  cases x with
  | c x =>
    have h1 := CV.val_one h
    have h2 : x.val σ V = some v := h
    simp only [AV.cells, vals, h2, Option.bind_some, Option.map_some]
    cases v <;> simp_all [Value.oneCell', Value.cells]
  | agg l =>
    simp only [AV.val, Option.map_eq_some_iff] at h
    obtain ⟨vs, hv, rfl⟩ := h
    simp [AV.cells, Value.cells, hv]
  | tup l => simp [AV.isTup] at ht

/-! Heaps and frames. -/
def RowOk (σ : Nat → Value) (V : Vn) (k : Blk) (cap : Nat) (cur : Array Value) : Prop :=
  (∃ vs, vals σ V k.xs = some vs ∧ cur.toList.take vs.length = vs) ∧
  match k.row with
  | none => cur.size = k.xs.length
  | some s => cur.size = cap * s

structure HRel (σ : Nat → Value) (B : Nat) (w0 : World) (V : Vn) (h : Heap) (w : World) : Prop where
  base : B ≤ w0.heap.size
  below : Below B w0 w
  len : V.length = h.n
  blk : ∀ b k, h.get b = some k → ∃ p cur, V[b]? = some p ∧ B ≤ p.1 ∧ p.2 ≤ maxLen ∧ w.heap[p.1]? = some (.cells cur k.e (0, 0)) ∧ RowOk σ V k p.2 cur
  inj : ∀ b b' k k' p p', h.get b = some k → h.get b' = some k' → V[b]? = some p → V[b']? = some p' → p.1 = p'.1 → b = b'

structure FRel (σ : Nat → Value) (V : Vn) (nt : Nat) (fr : T AV) (a : Act) : Prop where
  defers : a.defers = []
  size : a.tmps.size = nt
  get : ∀ t x, fr.get deep t = some x → ∃ v, a.tmps[t]? = some v ∧ x.val σ V = some v

theorem FRel.ext {V V' : Vn} (e : Ext V V') {nt : Nat} {fr : T AV} {a : Act} (h : FRel σ V nt fr a) : FRel σ V' nt fr a :=
  ⟨h.defers, h.size, fun t x hx => let ⟨v, h1, h2⟩ := h.get t x hx; ⟨v, h1, AV.val_ext e h2⟩⟩

theorem FRel.put {V : Vn} {nt : Nat} {fr : T AV} {a : Act} (h : FRel σ V nt fr a) {d : Tmp} (hd : d < nt) (x : Option AV) (v : Value)
    (hx : ∀ y, x = some y → y.val σ V = some v) : FRel σ V nt (fr.set deep d x) (a.put (some d) v) := by
  refine ⟨h.defers, by simp [Act.put, h.size], fun t y hy => ?_⟩
  rcases T.get_set _ _ _ _ _ _ hy with ⟨rfl, h2⟩ | ⟨h1, h2⟩
  · exact ⟨v, by simp [Act.put, h.size, hd], hx y h2⟩
  · obtain ⟨u, hu, hv⟩ := h.get t y h2
    exact ⟨u, by simpa [Act.put, Array.getElem?_setIfInBounds_ne (Ne.symm h1)] using hu, hv⟩

theorem evalO_val {V : Vn} {nt : Nat} {fr : T AV} {a : Act} (h : FRel σ V nt fr a) {x : Operand} {y : AV} (hy : evalO fr x = some y) : y.val σ V = some (a.eval x) := by
  cases x with
  | tmp t =>
    obtain ⟨v, h1, h2⟩ := h.get t y hy
    rw [h2]; simp [Act.eval, h1]
  | const v => exact ofValue_val V hy
  | global g => simp [evalO] at hy
  | func f => simp only [evalO, Option.some.injEq] at hy; subst hy; rfl

theorem evalOs_val {V : Vn} {nt : Nat} {fr : T AV} {a : Act} (h : FRel σ V nt fr a) : ∀ {xs : List Operand} {ys : List AV}, evalOs fr xs = some ys → avals σ V ys = some (xs.map a.eval) := by
  intro xs
  induction xs with
  | nil => intro ys hy; simp [evalOs] at hy; subst hy; rfl
  | cons x r ih =>
    intro ys hy
    simp only [evalOs, Option.bind_eq_some_iff, Option.map_eq_some_iff] at hy
    obtain ⟨y, h1, zs, h2, rfl⟩ := hy
    simp [avals, evalO_val h h1, ih h2]

theorem pureRun_run {P : Program} {α : Type} {s : Sem α} {x : α} (h : pureRun P s = some x) (w : World) : s.run P w = .ok x w := by
  induction s with
  | pure a => simp [pureRun] at h; subst h; rfl
  | program k ih => simp only [pureRun] at h; exact ih P h
  | _ => simp [pureRun] at h

/-- A new block. -/
theorem HRel.alloc {B : Nat} {w0 : World} {V : Vn} {h : Heap} {w : World} (hr : HRel σ B w0 V h w) (e : TypeId) (xs : List CV) (vs : List Value) (hv : vals σ V xs = some vs) :
    HRel σ B w0 (V ++ [(w.heap.size, 0)]) (h.new { e := e, xs := xs, row := none }) (w.alloc (.cells vs.toArray e)) := by
  have hB : B ≤ w.heap.size := Nat.le_trans hr.base hr.below.size
  have ex : Ext V (V ++ [(w.heap.size, 0)]) := Ext.snoc _ _
  refine ⟨hr.base, hr.below.alloc hB _, by simp [hr.len, Heap.new], fun b k hb => ?_, fun b b' k k' p p' hb hb' hp hp' he => ?_⟩
  · rcases T.get_set _ _ _ _ _ _ hb with ⟨rfl, hk⟩ | ⟨hne, hk⟩
    · cases hk
      refine ⟨(w.heap.size, 0), vs.toArray, by rw [← hr.len]; simp, hB, Nat.zero_le _, heap_alloc_new w _, ⟨vs, vals_ext ex hv, by simp⟩, by simpa using vals_length hv⟩
    · obtain ⟨p, cur, h1, h2, h3, h4, ⟨us, h5, h6⟩, h7⟩ := hr.blk b k hk
      refine ⟨p, cur, ex.get h1, h2, h3, ?_, ⟨us, vals_ext ex h5, h6⟩, h7⟩
      rw [heap_alloc_old w _ _ (Array.getElem?_eq_some_iff.1 h4).1]; exact h4
  · have key : ∀ b k p, (h.new { e := e, xs := xs, row := none }).get b = some k → (V ++ [(w.heap.size, 0)])[b]? = some p → (b = h.n ∧ p.1 = w.heap.size) ∨ (h.get b = some k ∧ V[b]? = some p ∧ p.1 < w.heap.size) := by
      intro b k p hb hp
      rcases T.get_set _ _ _ _ _ _ hb with ⟨rfl, hk⟩ | ⟨hne, hk⟩
      · refine .inl ⟨rfl, ?_⟩
        rw [← hr.len] at hp
        simp at hp
        rw [← hp]
      · obtain ⟨q, cur, h1, h2, h3, h4, _⟩ := hr.blk b k hk
        have := ex.get h1
        rw [hp] at this
        cases this
        exact .inr ⟨hk, h1, (Array.getElem?_eq_some_iff.1 h4).1⟩
    rcases key b k p hb hp with ⟨rfl, h1⟩ | ⟨h1, h2, h3⟩ <;> rcases key b' k' p' hb' hp' with ⟨rfl, h1'⟩ | ⟨h1', h2', h3'⟩
    · rfl
    · omega
    · omega
    · exact hr.inj b b' k k' p p' h1 h1' h2 h2' he

/-- A row of which a part is written anew. -/
theorem HRel.setRow {B : Nat} {w0 : World} {V : Vn} {h : Heap} {w : World} (hr : HRel σ B w0 V h w) {b : Nat} {k : Blk} (hb : h.get b = some k) {p : Nat × Nat} (hp : V[b]? = some p)
    (ys : List CV) (us : List Value) (cur' : Array Value) (hy : vals σ V ys = some us) (ht : cur'.toList.take us.length = us)
    (hs : match k.row with | none => cur'.size = ys.length | some s => cur'.size = p.2 * s) :
    HRel σ B w0 V (h.put b (some { k with xs := ys })) (w.setRow p.1 cur') := by
  obtain ⟨q, cur, h1, h2, h3, h4, h5⟩ := hr.blk b k hb
  rw [hp] at h1; cases h1
  have hB : Below B w (w.setRow p.1 cur') := ⟨rfl, rfl, rfl, by simp [World.setRow], fun i hi => setRow_other w p.1 i cur' (by omega)⟩
  refine ⟨hr.base, hr.below.trans hB, hr.len, fun b' k' hb' => ?_, fun b1 b2 k1 k2 p1 p2 hb1 hb2 hp1 hp2 he => ?_⟩
  · rcases T.get_set _ _ _ _ _ _ hb' with ⟨rfl, hk⟩ | ⟨hne, hk⟩
    · cases hk
      exact ⟨p, cur', hp, h2, h3, setRow_heap w p.1 cur cur' _ _ h4, ⟨us, hy, ht⟩, hs⟩
    · obtain ⟨q, cur2, g1, g2, g3, g4, g5⟩ := hr.blk b' k' hk
      refine ⟨q, cur2, g1, g2, g3, ?_, g5⟩
      rw [setRow_other w p.1 q.1 cur' (fun e => hne (hr.inj b' b k' k q p hk hb g1 hp e))]
      exact g4
  · have old : ∀ b k', (h.put b (some { k with xs := ys })).get b = some k' → True := fun _ _ _ => trivial
    have key : ∀ b1 k1, (h.put b (some { k with xs := ys })).get b1 = some k1 → ∃ k2, h.get b1 = some k2 := by
      intro b1 k1 h1
      rcases T.get_set _ _ _ _ _ _ h1 with ⟨rfl, hk⟩ | ⟨hne, hk⟩
      · exact ⟨k, hb⟩
      · exact ⟨k1, hk⟩
    obtain ⟨m1, hm1⟩ := key b1 k1 hb1
    obtain ⟨m2, hm2⟩ := key b2 k2 hb2
    exact hr.inj b1 b2 m1 m2 p1 p2 hm1 hm2 hp1 hp2 he

/-- A draw. -/
theorem HRel.drew {B : Nat} {w0 : World} {V : Vn} {h : Heap} {w : World} (hr : HRel σ B w0 V h w) : HRel σ B w0 V h { w with drawn := w.drawn + 1 } :=
  ⟨hr.base, hr.below.drew, hr.len, hr.blk, hr.inj⟩

/-- A block that is not spoken of again. -/
theorem HRel.kill {B : Nat} {w0 : World} {V : Vn} {h : Heap} {w : World} (hr : HRel σ B w0 V h w) (b : Nat) : HRel σ B w0 V (h.put b none) w := by
  have key : ∀ b1 k1, (h.put b none).get b1 = some k1 → h.get b1 = some k1 := by
    intro b1 k1 h1
    rcases T.get_set _ _ _ _ _ _ h1 with ⟨_, hk⟩ | ⟨_, hk⟩
    · cases hk
    · exact hk
  exact ⟨hr.base, hr.below, hr.len, fun b1 k1 h1 => hr.blk b1 k1 (key b1 k1 h1), fun b1 b2 k1 k2 p1 p2 h1 h2 => hr.inj b1 b2 k1 k2 p1 p2 (key _ _ h1) (key _ _ h2)⟩

end
end Go.CX

/- Single operations of the executor are what the model's operations do. -/
namespace Go.CX
open Go.RowKit (Below)

section
variable {σ : Nat → Value} {P : Program} {B : Nat} {w0 : World} {V : Vn} {nt : Nat} {h h' : Heap} {w : World} {fr : T AV} {a : Act} {o : Oper}
variable {K : Act → World → Prop} {Q : Exit → Act → World → Prop}

theorem wp_val {v : Value} {w' : World} (hr : (execOp a.eval o).run P w = .ok (.value v) w') (hk : K (a.put o.dst v) w') : o.wp P a w K Q := by
  unfold Oper.wp; rw [hr]; exact hk
theorem wp_skp {w' : World} (hr : (execOp a.eval o).run P w = .ok .skip w') (hk : K (a.put o.dst undef) w') : o.wp P a w K Q := by
  unfold Oper.wp; rw [hr]; exact hk

/-- What an operation of the executor promises. -/
def OpOk (σ : Nat → Value) (P : Program) (B : Nat) (w0 : World) (V : Vn) (h' : Heap) (a : Act) (w : World) (o : Oper) (x : Option AV) : Prop :=
  ∀ (K : Act → World → Prop) (Q : Exit → Act → World → Prop),
    (∀ V' v w', Ext V V' → HRel σ B w0 V' h' w' → (∀ y, x = some y → y.val σ V' = some v) → K (a.put o.dst v) w') → o.wp P a w K Q

theorem OpOk.val {x : AV} {v : Value} (hr : HRel σ B w0 V h w) (hv : x.val σ V = some v) (hrun : (execOp a.eval o).run P w = .ok (.value v) w) : OpOk σ P B w0 V h a w o (some x) :=
  fun _ _ hk => wp_val hrun (hk V v w (Ext.refl V) hr fun y hy => by cases hy; exact hv)

theorem eval_lit {x : Operand} {v : Value} (hf : FRel σ V nt fr a) (hx : evalO fr x = some (.c (.lit v))) : a.eval x = v := by
  have := evalO_val hf hx
  simp only [AV.val, CV.val] at this
  split at this <;> simp_all

theorem eval_ptr {x : Operand} {b off : Nat} (hf : FRel σ V nt fr a) (hx : evalO fr x = some (.c (.ptr b off))) : ∃ p, V[b]? = some p ∧ a.eval x = .pointer (some ⟨p.1, off, none⟩) := by
  have := evalO_val hf hx
  simp only [AV.val, CV.val, Option.map_eq_some_iff] at this
  obtain ⟨p, hp, e⟩ := this
  exact ⟨p, hp, e.symm⟩

theorem add_lit' (b off n : Nat) : (⟨b, off, none⟩ : Addr).add n = ⟨b, off + n, none⟩ := by unfold Addr.add; split <;> simp_all

/-- The cells of a block, as the world has them. -/
theorem HRel.cells (hr : HRel σ B w0 V h w) {b : Nat} {k : Blk} (hb : h.get b = some k) {p : Nat × Nat} (hp : V[b]? = some p) :
    ∃ vs, vals σ V k.xs = some vs ∧ ∀ j v, vs[j]? = some v → w.cell? ⟨p.1, j, none⟩ = some v := by
  obtain ⟨q, cur, h1, h2, h3, h4, ⟨vs, h5, h6⟩, h7⟩ := hr.blk b k hb
  rw [hp] at h1; cases h1
  refine ⟨vs, h5, fun j v hj => ?_⟩
  simp only [World.cell?, h4]
  rw [← h6] at hj
  rw [List.getElem?_take] at hj
  split at hj
  · simpa using hj
  · cases hj

theorem run_isAgg {t : TypeId} {g : Bool} (hg : isAggT P t = some g) (w : World) : (isAgg t).run P w = .ok g w := by
  unfold isAggT at hg
  unfold isAgg
  split at hg
  all_goals first
    | (cases hg; rename_i hd; rw [Sem.run_bind, run_underlying hd w]; simp; done)
    | (cases hg; rename_i d hd h1; rw [Sem.run_bind, run_underlying h1 w]; cases d <;> simp_all; done)
    | cases hg

theorem run_sizeOf' {t : TypeId} {n : Nat} (hn : sizeOfT P t = some n) (w : World) : (sizeOf t).run P w = .ok n w := by
  unfold sizeOfT at hn
  simp only [Option.map_eq_some_iff] at hn
  obtain ⟨i, hi, rfl⟩ := hn
  simp [sizeOf, typeInfo, hi]

theorem run_part {t : TypeId} {cs : List CV} {vs : List Value} {off : Nat} {x : AV} (hx : partT P t cs off = some x) (hv : vals σ V cs = some vs) :
    ∃ v, x.val σ V = some v ∧ (part t vs.toArray off).run P w = .ok v w := by
  unfold partT at hx
  simp only [Option.bind_eq_some_iff] at hx
  obtain ⟨g, hg, hx⟩ := hx
  cases g with
  | true =>
    simp only [if_true, Option.bind_eq_some_iff] at hx
    obtain ⟨n, hn, hx⟩ := hx
    split at hx
    · rename_i hle
      cases hx
      refine ⟨.agg ((vs.drop off).take n).toArray, by simp [AV.val, vals_take n (vals_drop off hv)], ?_⟩
      simp only [part, Sem.run_bind, run_isAgg hg, Result.andThen_ok, if_true, run_sizeOf' hn]
      simp [List.extract_toArray, List.extract_eq_take_drop]
    · cases hx
  | false =>
    simp only [Bool.false_eq_true, if_false, Option.map_eq_some_iff] at hx
    obtain ⟨y, hy, rfl⟩ := hx
    obtain ⟨v, h1, h2⟩ := vals_get hv hy
    refine ⟨v, h2, ?_⟩
    simp [part, run_isAgg hg, h1]

theorem run_loadVar {t : TypeId} {b off : Nat} {k : Blk} {x : AV} (hr : HRel σ B w0 V h w) (hb : h.get b = some k) (hx : partT P t k.xs off = some x) {p : Nat × Nat} (hp : V[b]? = some p) :
    ∃ v, x.val σ V = some v ∧ (loadVar t ⟨p.1, off, none⟩).run P w = .ok v w := by
  obtain ⟨vs, hv, hc⟩ := hr.cells hb hp
  unfold partT at hx
  simp only [Option.bind_eq_some_iff] at hx
  obtain ⟨g, hg, hx⟩ := hx
  cases g with
  | true =>
    simp only [if_true, Option.bind_eq_some_iff] at hx
    obtain ⟨n, hn, hx⟩ := hx
    split at hx
    · rename_i hle
      cases hx
      refine ⟨.agg ((vs.drop off).take n).toArray, by simp [AV.val, vals_take n (vals_drop off hv)], ?_⟩
      have hl := vals_length hv
      have hlen : ((vs.drop off).take n).length = n := by simp; omega
      have hload := run_loadCells_list (P := P) w ⟨p.1, off, none⟩ ((vs.drop off).take n) (fun j v hj => by
        rw [add_lit']
        refine hc _ _ ?_
        rw [List.getElem?_take] at hj
        split at hj
        · simpa [List.getElem?_drop] using hj
        · cases hj)
      rw [hlen] at hload
      simp only [loadVar, Sem.run_bind, run_isAgg hg, Result.andThen_ok, if_true, run_sizeOf' hn, hload]
      rfl
    · cases hx
  | false =>
    simp only [Bool.false_eq_true, if_false, Option.map_eq_some_iff] at hx
    obtain ⟨y, hy, rfl⟩ := hx
    obtain ⟨v, h1, h2⟩ := vals_get hv hy
    refine ⟨v, h2, ?_⟩
    simp [loadVar, run_isAgg hg, hc _ _ h1]

theorem splice_val {xs ys cs : List CV} {off : Nat} {vs us : List Value} (hs : splice xs off cs = some ys) (hv : vals σ V xs = some vs) (hu : vals σ V cs = some us) :
    off + us.length ≤ vs.length ∧ ys.length = xs.length ∧ vals σ V ys = some (vs.take off ++ us ++ vs.drop (off + us.length)) := by
  unfold splice at hs
  split at hs
  · rename_i hle
    cases hs
    have h1 := vals_length hv
    have h2 := vals_length hu
    refine ⟨by omega, by simp; omega, ?_⟩
    rw [h2]
    exact vals_append (vals_append (vals_take off hv) hu) (vals_drop _ hv)
  · cases hs

theorem splice_take {α : Type} (l cs : List α) (off m : Nat) (h : off + cs.length ≤ m) (hm : m ≤ l.length) :
    (l.take off ++ cs ++ l.drop (off + cs.length)).take m = (l.take m).take off ++ cs ++ (l.take m).drop (off + cs.length) := by
  apply List.ext_getElem?
  intro i
  simp only [List.getElem?_append, List.getElem?_take, List.getElem?_drop, List.length_append, List.length_take]
  have h1 : min off l.length = off := by omega
  have h2 : min off (min m l.length) = off := by omega
  simp only [h1, h2]
  by_cases c1 : i < off
  · simp [c1, show i < m by omega, show i < off + cs.length by omega]
  · by_cases c2 : i < off + cs.length
    · simp [c1, c2, show i < m by omega]
    · by_cases c3 : i < m
      · simp [c2, c3, show off + cs.length + (i - (off + cs.length)) = i by omega]
      · simp [c2, c3, show ¬ (off + cs.length + (i - (off + cs.length)) < m) by omega]

theorem fold_splice_from : ∀ (us : List Value) (j off : Nat) (vs : List Value), off + j + us.length ≤ vs.length →
    ((us.zipIdx j).foldl (fun (cs : Array Value) (x : Value × Nat) => cs.setIfInBounds (off + x.2) x.1) vs.toArray) = (vs.take (off + j) ++ us ++ vs.drop (off + j + us.length)).toArray := by
  intro us
  induction us with
  | nil => intro j off vs h; simp
  | cons u r ih =>
    intro j off vs h
    simp only [List.zipIdx_cons, List.foldl_cons, List.setIfInBounds_toArray]
    rw [ih (j + 1) off (vs.set (off + j) u) (by simp at h ⊢; omega)]
    congr 1
    have e := list_seg_step vs (off + j) u r (by simp at h ⊢; omega)
    simpa [Nat.add_assoc] using e

theorem fold_splice (us : List Value) (off : Nat) (vs : List Value) (h : off + us.length ≤ vs.length) :
    ((us.toArray.zipIdx).foldl (fun (cs : Array Value) (x : Value × Nat) => cs.setIfInBounds (off + x.2) x.1) vs.toArray) = (vs.take off ++ us ++ vs.drop (off + us.length)).toArray := by
  have := fold_splice_from us 0 off vs (by simpa using h)
  simpa using this

theorem run_storeVar {t : TypeId} {b off : Nat} {k : Blk} {x : AV} {v : Value} {ys : List CV} (hr : HRel σ B w0 V h w) (hb : h.get b = some k) (ht : x.isTup = false) (hn : sizeOfT P t = some x.cells.length)
    (hx : x.val σ V = some v) (hs : splice k.xs off x.cells = some ys) {p : Nat × Nat} (hp : V[b]? = some p) :
    ∃ w', (storeVar t ⟨p.1, off, none⟩ v).run P w = .ok () w' ∧ HRel σ B w0 V (h.put b (some { k with xs := ys })) w' := by
  obtain ⟨q, cur, h1, h2, h3, h4, ⟨vs, h5, h6⟩, h7⟩ := hr.blk b k hb
  rw [hp] at h1; cases h1
  have hc := cells_val ht hx
  have hcl := vals_length hc
  obtain ⟨hle, hlen, hys⟩ := splice_val hs h5 hc
  have hvl := vals_length h5
  have hcur : vs.length ≤ cur.size := by
    have := congrArg List.length h6
    simp at this; omega
  have hone : ∀ u ∈ v.cells.toList, u.oneCell' = true := vals_one hc
  have hst := run_storeCells_at P p.1 off k.e v.cells.toList 0 cur w h4 (by simp at hle hcl ⊢; omega) hone
  have hsz : v.cells.size = x.cells.length := by simpa using hcl
  simp only [Nat.add_zero] at hst
  refine ⟨_, (?_ : (storeVar t ⟨p.1, off, none⟩ v).run P w = .ok () (w.setRow p.1 (cur.toList.take off ++ v.cells.toList ++ cur.toList.drop (off + v.cells.toList.length)).toArray)), ?_⟩
  · simp only [storeVar, Sem.run_bind, run_sizeOf' hn, Result.andThen_ok, hsz, ne_eq, not_true, if_false]
    exact hst
  · have htk : cur.toList.take vs.length = vs := h6
    refine hr.setRow hb hp ys _ _ hys ?_ ?_
    · have := splice_take cur.toList v.cells.toList off vs.length (by simpa using hle) (by simpa using hcur)
      rw [htk] at this
      rw [List.toList_toArray, show (vs.take off ++ v.cells.toList ++ vs.drop (off + v.cells.toList.length)).length = vs.length from by simp at hle ⊢; omega]
      simpa using this
    · revert h7
      cases k.row with
      | none => intro h7; simp at hle hcl ⊢; omega
      | some s => intro h7; simp at hle hcl h7 ⊢; omega

/-- Cells of a row read one by one. -/
theorem HRel.rowCells (hr : HRel σ B w0 V h w) {b : Nat} {k : Blk} (hb : h.get b = some k) {p : Nat × Nat} (hp : V[b]? = some p) {off n : Nat} (hle : off + n ≤ k.xs.length) :
    ∃ vs, vals σ V ((k.xs.drop off).take n) = some vs ∧ vs.length = n ∧ ∀ j v, vs[j]? = some v → w.cell? ((⟨p.1, off, none⟩ : Addr).add j) = some v := by
  obtain ⟨vs, hv, hc⟩ := hr.cells hb hp
  have hl := vals_length hv
  refine ⟨_, vals_take n (vals_drop off hv), by simp; omega, fun j v hj => ?_⟩
  rw [add_lit']
  refine hc _ _ ?_
  rw [List.getElem?_take] at hj
  split at hj
  · simpa [List.getElem?_drop] using hj
  · cases hj



/-- 'fill' is the model's. -/
theorem fillL_fill {place : Nat → Option (Nat × Nat)} : ∀ {parts : List (Nat × AV)} {us : List Value} {cells out : List CV} {vs : List Value},
    fillL place cells parts = some out → avals σ V (parts.map (·.2)) = some us → vals σ V cells = some vs →
    ∃ ws, vals σ V out = some ws ∧ Instr.fill place vs.toArray ((parts.map (·.1)).zip us) = some ws.toArray := by
  intro parts
  induction parts with
  | nil =>
    intro us cells out vs hf hu hv
    simp [fillL] at hf; simp [avals] at hu; subst hf; subst hu
    exact ⟨vs, hv, by simp [Instr.fill]⟩
  | cons x r ih =>
    intro us cells out vs hf hu hv
    obtain ⟨i, x⟩ := x
    simp only [List.map_cons, avals, Option.bind_eq_some_iff, Option.map_eq_some_iff] at hu
    obtain ⟨u, hxu, us, hus, rfl⟩ := hu
    simp only [fillL] at hf
    split at hf
    · cases hf
    · rename_i hnt
      have hnt : x.isTup = false := by simpa using hnt
      simp only [Option.bind_eq_some_iff] at hf
      obtain ⟨⟨off, size⟩, hpl, hf⟩ := hf
      split at hf
      · rename_i hsz
        simp only [Option.bind_eq_some_iff] at hf
        obtain ⟨cs, hsp, hf⟩ := hf
        have hc := cells_val hnt hxu
        have hcl := vals_length hc
        obtain ⟨hle, hlen, hys⟩ := splice_val hsp hv hc
        obtain ⟨ws, h1, h2⟩ := ih hf hus hys
        refine ⟨ws, h1, ?_⟩
        have hsz' : u.cells.size = size := by simp at hcl hsz; omega
        have hle' : off + u.cells.size ≤ vs.length := by simpa using hle
        simp only [List.map_cons, List.zip_cons_cons, Instr.fill, hpl, hsz']
        rw [if_neg (by simp; omega)]
        rw [fold_splice u.cells.toList off vs hle']
        simpa using h2
      · cases hf

end
end Go.CX

/- Each operation of the executor is what the model's operation does: allocations, builds, rows, appends, calls. -/
namespace Go.CX
open Go.RowKit (Below)

section
variable {σ : Nat → Value} {P : Program} {B : Nat} {w0 : World} {V : Vn} {nt : Nat} {h h' : Heap} {w : World} {fr : T AV} {a : Act} {o : Oper} {t : TypeId} {x y : Operand} {parts : Array (Nat × Operand)} {len : Nat}

theorem HRel.le (hr : HRel σ B w0 V h w) : B ≤ w.heap.size := Nat.le_trans hr.base hr.below.size

/-- A new block's pointer. -/
theorem new_ptr (hr : HRel σ B w0 V h w) (x : Nat × Nat) : (CV.ptr h.n 0).val σ (V ++ [x]) = some (.pointer (some ⟨x.1, 0, none⟩)) := by
  simp [CV.val, ← hr.len]

theorem op_new (hr : HRel σ B w0 V h w) {e : TypeId} {z : AV} {v : Value} (ht : z.isTup = false) (hz : z.val σ V = some v)
    (hrun : (execOp a.eval o).run P w = .ok (.value (.pointer (some ⟨w.heap.size, 0, none⟩))) (w.alloc (.cells v.cells e))) :
    OpOk σ P B w0 V (h.new { e := e, xs := z.cells, row := none }) a w o (some (.c (.ptr h.n 0))) := by
  intro K Q hk
  have hc := cells_val ht hz
  refine wp_val hrun (hk (V ++ [(w.heap.size, 0)]) _ _ (Ext.snoc _ _) ?_ ?_)
  · have := hr.alloc e z.cells _ hc
    simpa using this
  · intro y hy
    cases hy
    exact new_ptr hr _

theorem zeroOf_spec {t : TypeId} {z : AV} (hz : zeroOf P t = some z) : ∃ i v, P.info? t = some i ∧ i.zero = some v ∧ ofValue v = some z := by
  unfold zeroOf at hz
  simp only [Option.bind_eq_some_iff] at hz
  obtain ⟨v, ⟨i, hi, hv⟩, ho⟩ := hz
  exact ⟨i, v, hi, hv, ho⟩

theorem op_alloc (ho : o.op = .alloc t) (hr : HRel σ B w0 V h w) {z : AV} (hz : zeroOf P t = some z) (ht : z.isTup = false) :
    OpOk σ P B w0 V (h.new { e := t, xs := z.cells, row := none }) a w o (some (.c (.ptr h.n 0))) := by
  obtain ⟨i, v, hi, hv, hof⟩ := zeroOf_spec hz
  refine op_new hr ht (ofValue_val V hof) ?_
  simp [execOp, ho, Instr.alloc, zeroValue, typeInfo, hi, hv, newVar, newRow]

theorem op_box (ho : o.op = .box t x) (hr : HRel σ B w0 V h w) (hf : FRel σ V nt fr a) {z : AV} (hz : evalO fr x = some z) (ht : z.isTup = false) :
    OpOk σ P B w0 V (h.new { e := t, xs := z.cells, row := none }) a w o (some (.c (.ptr h.n 0))) := by
  refine op_new hr ht (evalO_val hf hz) ?_
  simp [execOp, ho, Instr.box, newVar, newRow]

theorem run_places {fs : List Go.Field} {pl : List (Nat × Nat)} (hp : placesOf P fs = some pl) (w : World) :
    (fs.mapM fun (f : Go.Field) => (do pure (f.offset, ← sizeOf f.type) : Sem (Nat × Nat))).run P w = .ok pl w := by
  induction fs generalizing pl with
  | nil => simp [placesOf] at hp; subst hp; rfl
  | cons f r ih =>
    simp only [placesOf, List.mapM_cons, Option.pure_def, Option.bind_eq_bind, Option.bind_eq_some_iff, Option.map_eq_some_iff, Option.some.injEq] at hp
    obtain ⟨q, ⟨n, hn, rfl⟩, ps, hps, rfl⟩ := hp
    have := ih hps
    simp only [List.mapM_cons, Sem.run_bind, run_sizeOf' hn, Result.andThen_ok, Sem.run_pure, this]

theorem parts_zip (parts : Array (Nat × Operand)) (f : Operand → Value) :
    ((parts.map fun (i, x) => (i, f x)).toList) = (parts.toList.map (·.1)).zip ((parts.toList.map (·.2)).map f) := by
  simp only [Array.toList_map]
  induction parts.toList with
  | nil => rfl
  | cons x r ih => simpa using ih

theorem zip_fst {α β : Type} : ∀ (l : List α) (m : List β), l.length = m.length → (l.zip m).map (·.1) = l ∧ (l.zip m).map (·.2) = m := by
  intro l
  induction l with
  | nil => intro m hm; cases m <;> simp_all
  | cons x r ih => intro m hm; cases m with
    | nil => simp at hm
    | cons y s => simpa using ih s (by simpa using hm)

theorem evalOs_length : ∀ {xs : List Operand} {ys : List AV}, evalOs fr xs = some ys → ys.length = xs.length := by
  intro xs
  induction xs with
  | nil => intro ys hy; simp [evalOs] at hy; subst hy; rfl
  | cons x r ih =>
    intro ys hy
    simp only [evalOs, Option.bind_eq_some_iff, Option.map_eq_some_iff] at hy
    obtain ⟨y, _, zs, h2, rfl⟩ := hy
    simp [ih h2]

theorem fill_run {place : Nat → Option (Nat × Nat)} (hf : FRel σ V nt fr a) {parts : Array (Nat × Operand)} {vs : List AV} (hv : evalOs fr (parts.toList.map (·.2)) = some vs)
    {cells out : List CV} {us : List Value} (hfill : fillL place cells ((parts.toList.map (·.1)).zip vs) = some out) (hc : vals σ V cells = some us) :
    ∃ ws, vals σ V out = some ws ∧ Instr.fill place us.toArray ((parts.map fun (i, x) => (i, a.eval x)).toList) = some ws.toArray := by
  have hl := evalOs_length hv
  have hz := zip_fst (parts.toList.map (·.1)) vs (by simpa using hl.symm)
  have := fillL_fill hfill (by rw [hz.2]; exact evalOs_val hf hv) hc
  rw [hz.1] at this
  rw [parts_zip]
  exact this

theorem op_build_struct (ho : o.op = .build t parts) (hr : HRel σ B w0 V h w) (hf : FRel σ V nt fr a) {vs : List AV} (hv : evalOs fr (parts.toList.map (·.2)) = some vs)
    {z : AV} (hz : zeroOf P t = some z) (ht : z.isTup = false) {fs : Array Go.Field} (hu : P.underlying t = some (.struct fs)) {pl : List (Nat × Nat)} (hp : placesOf P fs.toList = some pl)
    {cs : List CV} (hfill : fillL (pl[·]?) z.cells ((parts.toList.map (·.1)).zip vs) = some cs) : OpOk σ P B w0 V h a w o (some (.agg cs)) := by
  obtain ⟨i, v, hi, hvz, hof⟩ := zeroOf_spec hz
  obtain ⟨ws, h1, h2⟩ := fill_run hf hv hfill (cells_val ht (ofValue_val V hof))
  refine OpOk.val hr (v := .agg ws.toArray) (by simp [AV.val, h1]) ?_
  have hp' := run_places hp w
  simp only [Array.toArray_toList] at h2
  simp only [execOp, ho, Instr.build, Sem.run_bind, zeroValue, typeInfo, run_program, Result.andThen_ok, hi, Sem.run_pure, hvz, run_underlying hu]
  rw [Array.mapM_eq_mapM_toList]
  simp only [Sem.run_map, hp', Result.andThen_ok]
  have e : (fun (x : Nat) => pl.toArray[x]?) = (fun (x : Nat) => pl[x]?) := by funext x; simp
  simp only [e, h2]
  rfl

theorem op_build_array (ho : o.op = .build t parts) (hr : HRel σ B w0 V h w) (hf : FRel σ V nt fr a) {vs : List AV} (hv : evalOs fr (parts.toList.map (·.2)) = some vs)
    {z : AV} (hz : zeroOf P t = some z) (ht : z.isTup = false) {m : Nat} {e : TypeId} (hu : P.underlying t = some (.array m e)) {n : Nat} (hn : sizeOfT P e = some n)
    {cs : List CV} (hfill : fillL (fun i => some (i * n, n)) z.cells ((parts.toList.map (·.1)).zip vs) = some cs) : OpOk σ P B w0 V h a w o (some (.agg cs)) := by
  obtain ⟨i, v, hi, hvz, hof⟩ := zeroOf_spec hz
  obtain ⟨ws, h1, h2⟩ := fill_run hf hv hfill (cells_val ht (ofValue_val V hof))
  refine OpOk.val hr (v := .agg ws.toArray) (by simp [AV.val, h1]) ?_
  simp only [Array.toArray_toList] at h2
  simp only [execOp, ho, Instr.build, Sem.run_bind, zeroValue, typeInfo, run_program, Result.andThen_ok, hi, Sem.run_pure, hvz, run_underlying hu, run_sizeOf' hn, h2]

theorem range_rep (n s : Nat) (z : Array Value) (hz : z.size = s) : ((Array.range (n * s)).map (z[· % z.size]!)).toList = (List.replicate n z.toList).flatten := by
  subst hz
  simp only [Array.toList_map, Array.toList_range]
  induction n with
  | zero => simp
  | succ n ih =>
    rw [List.replicate_succ, List.flatten_cons, ← ih, Nat.succ_mul, Nat.add_comm (n * z.size) z.size, List.range_add, List.map_append, List.map_map]
    congr 1
    · apply List.ext_getElem
      · simp
      · intro i h1 h2
        simp at h1
        simp [Nat.mod_eq_of_lt h1, h1]
    · apply List.map_congr_left
      intro j _
      simp

theorem op_buildSlice (ho : o.op = .buildSlice t len parts) (hr : HRel σ B w0 V h w) (hf : FRel σ V nt fr a) {vs : List AV} (hv : evalOs fr (parts.toList.map (·.2)) = some vs)
    {e : TypeId} (hu : P.underlying t = some (.slice e)) {i : TypeInfo} (hi : P.info? e = some i) {zv : Value} {z : AV} (hz : i.zero = some zv) (hof : ofValue zv = some z)
    (ht : z.isTup = false) (hsz : z.cells.length = i.size) (hle : len * i.size ≤ 65536)
    {cs : List CV} (hfill : fillL (fun j => some (j * i.size, i.size)) (rep len z.cells) ((parts.toList.map (·.1)).zip vs) = some cs) :
    OpOk σ P B w0 V (h.new { e := e, xs := cs, row := none }) a w o (some (.c (.sl h.n 0 len (some len)))) := by
  have hcz := cells_val ht (ofValue_val (σ := σ) V hof)
  have hzl : zv.cells.size = i.size := by have := vals_length hcz; simp at this; omega
  obtain ⟨ws, h1, h2⟩ := fill_run hf hv hfill (vals_flat hcz len)
  have hrg := range_rep len i.size zv.cells hzl
  intro K Q hk
  have hr' := hr.alloc e cs ws h1
  refine wp_val (v := .slice (some ⟨w.heap.size, 0, none⟩) len len) (w' := w.alloc (.cells ws.toArray e)) ?_ (hk (V ++ [(w.heap.size, 0)]) _ _ (Ext.snoc _ _) hr' ?_)
  · rw [← hrg] at h2
    simp only [Array.toArray_toList] at h2
    simp only [execOp, ho, Instr.buildSlice, Sem.run_bind, run_underlying hu, Result.andThen_ok, sizeOf, typeInfo, run_program, hi, Sem.run_pure]
    rw [if_neg (by omega)]
    by_cases h0 : len * i.size = 0
    · rw [h0] at h2
      simp only [Array.range_zero', List.map_toArray, List.map_nil, Array.toList_map] at h2
      simp [h0, Array.range_zero', h2, newRow]
    · simp only [Array.toList_map] at h2
      simp [h0, zeroValue, typeInfo, hi, hz, h2, newRow]
  · intro y hy
    cases hy
    simp [AV.val, CV.val, ← hr.len]

theorem op_load (ho : o.op = .load t x) (hr : HRel σ B w0 V h w) (hf : FRel σ V nt fr a) {p y : AV} (hp : evalO fr x = some p) (hl : loadT P h t p = some y) :
    OpOk σ P B w0 V h a w o (some y) := by
  unfold loadT at hl
  split at hl
  · rename_i b off
    simp only [Option.bind_eq_some_iff] at hl
    obtain ⟨k, hk, hy⟩ := hl
    obtain ⟨q, hq, he⟩ := eval_ptr hf hp
    obtain ⟨v, hv, hrun⟩ := run_loadVar hr hk hy hq
    refine OpOk.val hr hv ?_
    simp only [execOp, ho, he, Instr.loadAt, Instr.sureAddr, Sem.run_bind, Sem.run_pure, Result.andThen_ok, hrun]
  · cases hl

theorem op_store (ho : o.op = .store t x y) (hr : HRel σ B w0 V h w) (hf : FRel σ V nt fr a) {p z : AV} (hp : evalO fr x = some p) (hy : evalO fr y = some z) (hs : storeT P h t p z = some h') :
    OpOk σ P B w0 V h' a w o none := by
  unfold storeT at hs
  split at hs
  · cases hs
  · rename_i hnt
    have hnt : z.isTup = false := by simpa using hnt
    split at hs
    · rename_i b off
      simp only [Option.bind_eq_some_iff] at hs
      obtain ⟨n, hn, hs⟩ := hs
      split at hs
      · rename_i hlen
        simp only [Option.bind_eq_some_iff, Option.map_eq_some_iff] at hs
        obtain ⟨k, hk, ys, hys, rfl⟩ := hs
        obtain ⟨q, hq, he⟩ := eval_ptr hf hp
        obtain ⟨w', hrun, hr'⟩ := run_storeVar hr hk hnt (by rw [hlen]; exact hn) (evalO_val hf hy) hys hq
        intro K Q hkk
        refine wp_skp (w' := w') ?_ (hkk V undef w' (Ext.refl V) hr' (fun y hy => by cases hy))
        simp only [execOp, ho, he, Instr.storeAt, Instr.sureAddr, Sem.run_bind, Sem.run_pure, Result.andThen_ok, hrun]
      · cases hs
    · cases hs

end
end Go.CX

/- Rows that grow, slices, calls: the executor's operations are the model's. -/
namespace Go.CX
open Go.RowKit (Below)
open Go.Lib

section
variable {σ : Nat → Value} {P : Program} {B : Nat} {w0 : World} {V : Vn} {nt : Nat} {h h' : Heap} {w : World} {fr : T AV} {a : Act} {o : Oper} {t : TypeId} {x y : Operand}

/-- A row that has grown, or been written behind its end, under a new number. -/
theorem HRel.grown (hr : HRel σ B w0 V h w) {w' : World} {row : Option Nat} (hg : w.grownBy w' row) (hrow : ∀ r, row = some r → B ≤ r ∧ ∀ b k p, h.get b = some k → V[b]? = some p → p.1 ≠ r)
    {g cap size : Nat} {cur : Array Value} {e : TypeId} {xs : List CV} {vs : List Value} (hv : vals σ V xs = some vs) (hgB : B ≤ g) (hnew : row = some g ∨ w.heap.size ≤ g)
    (hh : w'.heap[g]? = some (.cells cur e (0, 0))) (hcap : cap ≤ maxLen) (hsz : cur.size = cap * size) (htk : cur.toList.take vs.length = vs) :
    HRel σ B w0 (V ++ [(g, cap)]) (h.new { e := e, xs := xs, row := some size }) w' := by
  have ex : Ext V (V ++ [(g, cap)]) := Ext.snoc _ _
  have old : ∀ b k p cur, h.get b = some k → V[b]? = some p → w.heap[p.1]? = some (.cells cur k.e (0, 0)) → w'.heap[p.1]? = some (.cells cur k.e (0, 0)) ∧ p.1 ≠ g := by
    intro b k p cur hb hp hc
    have hlt := (Array.getElem?_eq_some_iff.1 hc).1
    have hne : some p.1 ≠ row := fun e => (hrow p.1 e.symm).2 b k p hb hp rfl
    refine ⟨by rw [hg.block p.1 hlt hne]; exact hc, fun e => ?_⟩
    rcases hnew with h1 | h1
    · exact hne (by rw [h1, e])
    · omega
  refine ⟨hr.base, hr.below.grown hg hr.le (fun k hk => (hrow k hk).1), by simp [hr.len, Heap.new], fun b k hb => ?_, fun b b' k k' p p' hb hb' hp hp' he => ?_⟩
  · rcases T.get_set _ _ _ _ _ _ hb with ⟨rfl, hk⟩ | ⟨hne, hk⟩
    · cases hk
      exact ⟨(g, cap), cur, by rw [← hr.len]; simp, hgB, hcap, hh, ⟨vs, vals_ext ex hv, htk⟩, hsz⟩
    · obtain ⟨p, cur, h1, h2, h3, h4, ⟨us, h5, h6⟩, h7⟩ := hr.blk b k hk
      exact ⟨p, cur, ex.get h1, h2, h3, (old b k p cur hk h1 h4).1, ⟨us, vals_ext ex h5, h6⟩, h7⟩
  · have key : ∀ b k p, (h.new { e := e, xs := xs, row := some size }).get b = some k → (V ++ [(g, cap)])[b]? = some p → (b = h.n ∧ p.1 = g) ∨ (h.get b = some k ∧ V[b]? = some p ∧ p.1 ≠ g) := by
      intro b k p hb hp
      rcases T.get_set _ _ _ _ _ _ hb with ⟨rfl, hk⟩ | ⟨hne, hk⟩
      · refine .inl ⟨rfl, ?_⟩
        rw [← hr.len] at hp
        simp at hp
        rw [← hp]
      · obtain ⟨q, cur, h1, h2, h3, h4, _⟩ := hr.blk b k hk
        have := ex.get h1
        rw [hp] at this
        cases this
        exact .inr ⟨hk, h1, (old b k p cur hk h1 h4).2⟩
    rcases key b k p hb hp with ⟨rfl, h1⟩ | ⟨h1, h2, h3⟩ <;> rcases key b' k' p' hb' hp' with ⟨rfl, h1'⟩ | ⟨h1', h2', h3'⟩
    · rfl
    · exact (h3' (by rw [← he]; exact h1)).elim
    · exact (h3 (by rw [he]; exact h1')).elim
    · exact hr.inj b b' k k' p p' h1 h1' h2 h2' he

/-- What an append leaves: a row of its own, in the old block or in a new one. -/
def Grew (w w' : World) (row : Option Nat) (e : TypeId) (size n : Nat) (xs : List Value) (v : Value) : Prop :=
  ∃ g cap cur, v = .slice (some ⟨g, 0, none⟩) n cap ∧ (row = some g ∨ g = w.heap.size) ∧ w.grownBy w' row ∧ w'.heap[g]? = some (.cells cur e (0, 0)) ∧ n ≤ cap ∧ cap ≤ maxLen ∧ cur.size = cap * size ∧ cur.toList.take (n * size) = xs

theorem grew_new (w : World) (e : TypeId) (size n old : Nat) (xs news : List Value) (z : Array Value) (hz : z.size = size) (hl : (xs ++ news).length = n * size) (hn : n ≤ maxLen) (row : Option Nat) :
    Grew w (w.drew.alloc (.cells (xs.toArray ++ news.toArray ++ Builtin.zeroCells z (grownCap w n old e - n)) e)) row e size n (xs ++ news) (.slice (some ⟨w.heap.size, 0, none⟩) n (grownCap w n old e)) := by
  have hge := grownCap_ge w n old e
  refine ⟨w.heap.size, _, _, rfl, .inr rfl, ⟨rfl, rfl, rfl, by simp, fun k hk _ => heap_alloc_old w.drew _ k hk⟩, heap_alloc_new w.drew _, hge, grownCap_le_maxLen w n old e hn, ?_, ?_⟩
  · simp only [Array.size_append, List.size_toArray, size_zeroCells, hz]
    have : xs.length + news.length = n * size := by simpa using hl
    rw [this, ← Nat.add_mul]; congr 1; omega
  · simp only [Array.toList_append, List.append_assoc]
    rw [← List.append_assoc, ← hl]
    exact List.take_left

theorem grew_room (w : World) (e : TypeId) (size n m cap g : Nat) (cur : Array Value) (xs news : List Value) (hg : w.heap[g]? = some (.cells cur e (0, 0))) (hcs : cur.size = cap * size) (hcm : cap ≤ maxLen)
    (hroom : n + m ≤ cap) (hxl : xs.length = n * size) (hl : news.length = m * size) (htake : cur.toList.take (n * size) = xs) :
    Grew w (w.setRow g (cur.toList.take (n * size) ++ news ++ cur.toList.drop (n * size + news.length)).toArray) (some g) e size (n + m) (xs ++ news) (.slice (some ⟨g, 0, none⟩) (n + m) cap) := by
  have hfit : n * size + news.length ≤ cur.size := by rw [hl, hcs, ← Nat.add_mul]; exact Nat.mul_le_mul_right _ hroom
  refine ⟨g, cap, _, rfl, .inl rfl, ⟨rfl, rfl, rfl, by simp [World.setRow], fun k _ hk => setRow_other w g k _ (fun e => hk (by rw [e]))⟩, setRow_heap w g cur _ e _ hg, hroom, hcm, ?_, ?_⟩
  · simp only [List.size_toArray, List.length_append, List.length_take, List.length_drop, Array.length_toList]
    omega
  · rw [htake]
    have : (n + m) * size = (xs ++ news).length := by simp [hxl, hl, Nat.add_mul]
    rw [this]
    exact List.take_left

/-- append of a slice of memory to a row of one's own. -/
theorem run_append_grew (w : World) (t ty e : TypeId) (i : TypeInfo) (z : Value) (ht : P.underlying t = some (.slice e)) (hi : P.info? e = some i) (hz : i.zero = some z) (hzs : z.cells.size = i.size)
    (g n cap : Nat) (cur : Array Value) (xs : List Value) (hg : w.heap[g]? = some (.cells cur e (0, 0))) (hcs : cur.size = cap * i.size) (hcm : cap ≤ maxLen)
    (hxl : xs.length = n * i.size) (htake : cur.toList.take (n * i.size) = xs)
    (ad : Addr) (m c : Nat) (news : List Value) (hl : news.length = m * i.size) (hnews : ∀ j u, news[j]? = some u → w.cell? (ad.add j) = some u) (h1 : ∀ u ∈ news, u.oneCell' = true)
    (h63 : n + m ≤ 1048576) (hby : i.bytes ≤ 4096) :
    ∃ v w', (Builtin.append_ #[t, t] ty #[.slice (some ⟨g, 0, none⟩) n cap, .slice (some ad) m c]).run P w = .ok v w' ∧ Grew w w' (some g) e i.size (n + m) (xs ++ news) v := by
  by_cases hroom : n + m ≤ cap
  · have hfit : n * i.size + news.length ≤ cur.size := by rw [hl, hcs, ← Nat.add_mul]; exact Nat.mul_le_mul_right _ hroom
    exact ⟨_, _, run_append_room (P := P) w t ty e i ht hi g n cap cur hg ad m c news hl hnews h1 hroom hfit, grew_room w e i.size n m cap g cur xs news hg hcs hcm hroom hxl hl htake⟩
  · have holds : ∀ j u, xs[j]? = some u → w.cell? ((⟨g, 0, none⟩ : Addr).add j) = some u := by
      intro j u hu
      rw [add_lit', Nat.zero_add]
      simp only [World.cell?, hg]
      rw [← htake, List.getElem?_take] at hu
      split at hu
      · simpa using hu
      · cases hu
    have hb : (n + m) * i.bytes ≤ 140737488355328 := Nat.le_trans (Nat.mul_le_mul h63 hby) (by decide)
    refine ⟨_, _, run_append_grow (P := P) w t ty e i z ht hi hz ⟨g, 0, none⟩ n cap xs hxl holds ad m c news hl hnews (by omega) (by omega) (growslice_fits (by omega) hb), ?_⟩
    exact grew_new w e i.size (n + m) cap xs news z.cells hzs (by simp [hxl, hl, Nat.add_mul]) (by simp only [maxLen]; omega) (some g)

theorem run_append_grew_nil (w : World) (t ty e : TypeId) (i : TypeInfo) (z : Value) (ht : P.underlying t = some (.slice e)) (hi : P.info? e = some i) (hz : i.zero = some z) (hzs : z.cells.size = i.size)
    (ad : Addr) (m c : Nat) (news : List Value) (hl : news.length = m * i.size) (hnews : ∀ j u, news[j]? = some u → w.cell? (ad.add j) = some u) (h0 : 0 < m)
    (h63 : m ≤ 1048576) (hby : i.bytes ≤ 4096) :
    ∃ v w', (Builtin.append_ #[t, t] ty #[.slice none 0 0, .slice (some ad) m c]).run P w = .ok v w' ∧ Grew w w' none e i.size m news v := by
  have hb : m * i.bytes ≤ 281474976710656 := Nat.le_trans (Nat.mul_le_mul h63 hby) (by decide)
  refine ⟨_, _, run_append_nil (P := P) w t ty e i z ht hi hz ad m c news hl hnews h0 (by omega) hb, ?_⟩
  have := grew_new w e i.size m 0 [] news z.cells hzs (by simpa using hl) (by simp only [maxLen]; omega) none
  simpa using this

theorem run_append_grew_string (w : World) (t u ty e : TypeId) (i : TypeInfo) (z : Value) (ht : P.underlying t = some (.slice e)) (hu : P.underlying u = some .string) (hi : P.info? e = some i) (hz : i.zero = some z) (hzs : z.cells.size = i.size) (hs1 : i.size = 1)
    (g n cap : Nat) (cur : Array Value) (xs : List Value) (hg : w.heap[g]? = some (.cells cur e (0, 0))) (hcs : cur.size = cap * i.size) (hcm : cap ≤ maxLen)
    (hxl : xs.length = n * i.size) (htake : cur.toList.take (n * i.size) = xs) (s : ByteArray) (h63 : n + s.size ≤ 1048576) (hby : i.bytes ≤ 4096) :
    ∃ v w', (Builtin.append_ #[t, u] ty #[.slice (some ⟨g, 0, none⟩) n cap, .string s]).run P w = .ok v w' ∧ Grew w w' (some g) e i.size (n + s.size) (xs ++ strCells s) v := by
  have hl : (strCells s).length = s.size * i.size := by rw [strCells_length, hs1, Nat.mul_one]
  by_cases hroom : n + s.size ≤ cap
  · have hfit : n + s.size ≤ cur.size := by rw [hcs, hs1]; omega
    have hr := run_append_room_string (P := P) w t u ty e i ht hu hi hs1 g n cap cur hg s hroom hfit
    refine ⟨_, _, hr, ?_⟩
    have := grew_room w e i.size n s.size cap g cur xs (strCells s) hg hcs hcm hroom hxl hl htake
    rw [strCells_length] at this
    simpa [hs1] using this
  · have holds : ∀ j u, xs[j]? = some u → w.cell? ((⟨g, 0, none⟩ : Addr).add j) = some u := by
      intro j u hu
      rw [add_lit', Nat.zero_add]
      simp only [World.cell?, hg]
      rw [← htake, List.getElem?_take] at hu
      split at hu
      · simpa using hu
      · cases hu
    have hb : (n + s.size) * i.bytes ≤ 140737488355328 := Nat.le_trans (Nat.mul_le_mul h63 hby) (by decide)
    refine ⟨_, _, run_append_grow_string (P := P) w t u ty e i z ht hu hi hz ⟨g, 0, none⟩ n cap xs hxl holds s (by omega) (by omega) (growslice_fits (by omega) hb), ?_⟩
    exact grew_new w e i.size (n + s.size) cap xs (strCells s) z.cells hzs (by rw [List.length_append, hxl, hl, Nat.add_mul]) (by simp only [maxLen]; omega) (some g)

theorem run_append_grew_nil_string (w : World) (t u ty e : TypeId) (i : TypeInfo) (z : Value) (ht : P.underlying t = some (.slice e)) (hu : P.underlying u = some .string) (hi : P.info? e = some i) (hz : i.zero = some z) (hzs : z.cells.size = i.size) (hs1 : i.size = 1)
    (s : ByteArray) (h0 : 0 < s.size) (h63 : s.size ≤ 1048576) (hby : i.bytes ≤ 4096) :
    ∃ v w', (Builtin.append_ #[t, u] ty #[.slice none 0 0, .string s]).run P w = .ok v w' ∧ Grew w w' none e i.size s.size (strCells s) v := by
  have hb : s.size * i.bytes ≤ 281474976710656 := Nat.le_trans (Nat.mul_le_mul h63 hby) (by decide)
  refine ⟨_, _, run_append_nil_string (P := P) w t u ty e i z ht hu hi hz s h0 (by omega) hb, ?_⟩
  have := grew_new w e i.size s.size 0 [] (strCells s) z.cells hzs (by simp [strCells_length, hs1]) (by simp only [maxLen]; omega) none
  have e1 : s.data.map (fun b => Value.int .u8 b.toNat) = (strCells s).toArray := by apply Array.ext'; simp [strCells]
  rw [e1]
  simpa using this

/-- An append of nothing. -/
theorem run_append_none (w : World) (t ty e : TypeId) (i : TypeInfo) (ht : P.underlying t = some (.slice e)) (hi : P.info? e = some i)
    (b : Option Addr) (n cap : Nat) (hn : n ≤ cap) (d : Option Addr) (c : Nat) :
    (Builtin.append_ #[t, t] ty #[.slice b n cap, .slice d 0 c]).run P w = .ok (.slice b n cap) w := by
  have hf : (Builtin.firstCells i.size 0 (.slice d 0 c)).run P w = .ok #[] w := by cases d <;> simp [Builtin.firstCells, loadCells, loadCellsFrom]
  cases b with
  | none => simp [Builtin.append_, run_underlying ht, sizeOf, typeInfo, hi, Builtin.lenOf, hn, hf]
  | some b => simp [Builtin.append_, run_underlying ht, sizeOf, typeInfo, hi, Builtin.lenOf, hn, hf, storeCells]

theorem run_append_none_string (w : World) (t u ty e : TypeId) (i : TypeInfo) (ht : P.underlying t = some (.slice e)) (hu : P.underlying u = some .string) (hi : P.info? e = some i)
    (b : Option Addr) (n cap : Nat) (hn : n ≤ cap) (s : ByteArray) (hs : s.size = 0) :
    (Builtin.append_ #[t, u] ty #[.slice b n cap, .string s]).run P w = .ok (.slice b n cap) w := by
  have hf : (Builtin.firstCells i.size s.size (.string s)).run P w = .ok #[] w := by rw [run_firstCells_string]; congr 1; rw [← List.length_eq_zero_iff.1 (by rw [strCells_length]; exact hs)]
  rw [hs] at hf
  cases b with
  | none => simp [Builtin.append_, run_underlying ht, run_underlying hu, sizeOf, typeInfo, hi, Builtin.lenOf, hs, hn, hf]
  | some b => simp [Builtin.append_, run_underlying ht, run_underlying hu, sizeOf, typeInfo, hi, Builtin.lenOf, hs, hn, hf, storeCells]

end
end Go.CX

/- The executor's appends, slices, calls as operations of the model. -/
namespace Go.CX
open Go.RowKit (Below)
open Go.Lib

section
variable {σ : Nat → Value} {P : Program} {B : Nat} {w0 : World} {V : Vn} {nt : Nat} {h h' : Heap} {w : World} {fr : T AV} {a : Act} {o : Oper} {t : TypeId} {x y : Operand} {ts : Array TypeId}

theorem cells_strCells (V : Vn) (s : ByteArray) : vals σ V (s.data.toList.map fun b => CV.lit (.int .u8 b.toNat)) = some (strCells s) := by
  simp only [strCells]
  induction s.data.toList with
  | nil => rfl
  | cons b r ih => simp [vals, CV.val, oneCell, ih]

/-- What is appended, as the world has it. -/
inductive Src (σ : Nat → Value) (P : Program) (w : World) (t xt : TypeId) (V : Vn) (size : Nat) (cs : List CV) (m : Nat) : Value → Prop where
  | mem (ad : Addr) (c : Nat) (news : List Value) (ht : xt = t) (hv : vals σ V cs = some news) (hl : news.length = m * size) (hc : ∀ j u, news[j]? = some u → w.cell? (ad.add j) = some u) : Src σ P w t xt V size cs m (.slice (some ad) m c)
  | none (ht : xt = t) (hm : m = 0) (c : Nat) : Src σ P w t xt V size cs m (.slice none 0 c)
  | str (s : ByteArray) (hu : P.underlying xt = some .string) (hm : m = s.size) (h1 : size = 1) (hv : vals σ V cs = some (strCells s)) : Src σ P w t xt V size cs m (.string s)

theorem appCells_src (hr : HRel σ B w0 V h w) {t xt : TypeId} {size : Nat} {x : AV} {cs : List CV} {m : Nat} (hx : appCells h size x = some (cs, m))
    (hk : appKind P t xt x = true) {v : Value} (hv : x.val σ V = some v) : Src σ P w t xt V size cs m v := by
  unfold appCells at hx
  split at hx
  · rename_i b off n cap
    simp only [Option.bind_eq_some_iff] at hx
    obtain ⟨k, hb, hx⟩ := hx
    split at hx
    · rename_i hle
      cases hx
      simp only [AV.val] at hv
      have ht : xt = t := by simpa [appKind] using hk
      cases cap with
      | none =>
        simp only [CV.val, Option.bind_eq_some_iff] at hv
        obtain ⟨p, hp, hv⟩ := hv
        split at hv <;> cases hv
        obtain ⟨vs, h1, h2, h3⟩ := hr.rowCells hb hp hle
        exact .mem _ _ vs ht h1 h2 h3
      | some c =>
        simp only [CV.val] at hv
        split at hv
        · simp only [Option.map_eq_some_iff] at hv
          obtain ⟨p, hp, rfl⟩ := hv
          obtain ⟨vs, h1, h2, h3⟩ := hr.rowCells hb hp hle
          exact .mem _ _ vs ht h1 h2 h3
        · cases hv
    · cases hx
  · rename_i n c
    split at hx
    · rename_i hn
      cases hx
      subst hn
      simp only [AV.val, CV.val, oneCell, if_true, Option.some.injEq] at hv
      subst hv
      exact .none (by simpa [appKind] using hk) rfl c
    · cases hx
  · rename_i s
    split at hx
    · rename_i h1
      cases hx
      simp only [AV.val, CV.val, oneCell, if_true, Option.some.injEq] at hv
      subst hv
      refine .str s ?_ rfl h1 (cells_strCells V s)
      simp only [appKind] at hk
      split at hk <;> simp_all
    · cases hx
  · cases hx

theorem op_append (ho : o.op = .call { callee := .builtin .append, args := #[x, y], argTypes := ts }) (hr : HRel σ B w0 V h w) (hf : FRel σ V nt fr a) {s z r : AV}
    (hx : evalO fr x = some s) (hy : evalO fr y = some z) (happ : appendO P h ts.toList s z = some (r, h')) : OpOk σ P B w0 V h' a w o (some r) := by
  have hsv := evalO_val hf hx
  have hzv := evalO_val hf hy
  have hexec : ∀ (v : Value) (w' : World), (Builtin.append_ ts o.type #[a.eval x, a.eval y]).run P w = .ok v w' → (execOp a.eval o).run P w = .ok (.value v) w' := by
    intro v w' hrun
    simp only [execOp, ho, resolve, invoke, builtin, Sem.run_bind, Sem.run_pure, Result.andThen_ok, List.map_toArray, List.map_cons, List.map_nil, hrun]
  unfold appendO at happ
  split at happ
  · rename_i t xt htl
    have hts : ts = #[t, xt] := by apply Array.ext'; simpa using htl
    subst hts
    split at happ
    · rename_i e he
      split at happ
      · cases happ
      · rename_i hkind
        have hkind : appKind P t xt z = true := by simpa using hkind
        simp only [Option.bind_eq_some_iff] at happ
        obtain ⟨i, hi, zc, ⟨zv, hz, hof⟩, happ⟩ := happ
        split at happ
        · rename_i hcond
          obtain ⟨hzl, hby, hnt⟩ := hcond
          have hnt : zc.isTup = false := by simpa using hnt
          have hzs : zv.cells.size = i.size := by
            have := vals_length (cells_val hnt (ofValue_val (σ := σ) V hof)); simp at this; omega
          simp only [Option.bind_eq_some_iff] at happ
          obtain ⟨⟨cs, m⟩, hcs, happ⟩ := happ
          have hsrc := appCells_src (P := P) hr hcs hkind hzv
          -- nothing is appended
          have none_case : m = 0 → ∀ (b : Option Addr) (n cap : Nat), n ≤ cap → (Builtin.append_ #[t, xt] o.type #[.slice b n cap, a.eval y]).run P w = .ok (.slice b n cap) w := by
            intro hm b n cap hn
            generalize a.eval y = yv at hsrc
            cases hsrc with
            | mem ad c news ht hv hl hc => subst ht; subst hm; exact run_append_none w xt o.type e i he hi b n cap hn (some ad) c
            | none ht hm' c => subst ht; exact run_append_none w xt o.type e i he hi b n cap hn none c
            | str s hu hm' h1 hv => exact run_append_none_string w t xt o.type e i he hu hi b n cap hn s (by omega)
          split at happ
          · -- a nil slice
            have hxe : a.eval x = .slice none 0 0 := by
              simp only [AV.val, CV.val, oneCell, if_true, Option.some.injEq] at hsv; exact hsv.symm
            split at happ
            · rename_i hm
              cases happ
              refine OpOk.val hr (v := .slice none 0 0) rfl (hexec _ _ ?_)
              rw [hxe]
              exact none_case hm none 0 0 (Nat.le_refl _)
            · rename_i hm
              split at happ
              · rename_i hmost
                cases happ
                have hmost : m ≤ 1048576 := hmost
                have hgrew : ∃ v w' news, vals σ V cs = some news ∧ news.length = m * i.size ∧ (Builtin.append_ #[t, xt] o.type #[.slice none 0 0, a.eval y]).run P w = .ok v w' ∧ Grew w w' none e i.size m news v := by
                  generalize a.eval y = yv at hsrc
                  cases hsrc with
                  | mem ad c news ht hv hl hc =>
                    subst ht
                    obtain ⟨v, w', h1, h2⟩ := run_append_grew_nil w xt o.type e i zv he hi hz hzs ad m c news hl hc (by omega) hmost hby
                    exact ⟨v, w', news, hv, hl, h1, h2⟩
                  | none ht hm' c => exact (hm hm').elim
                  | str s hu hm' h1 hv =>
                    subst hm'
                    obtain ⟨v, w', g1, g2⟩ := run_append_grew_nil_string w t xt o.type e i zv he hu hi hz hzs h1 s (by omega) hmost hby
                    exact ⟨v, w', _, hv, by rw [strCells_length, h1, Nat.mul_one], g1, g2⟩
                obtain ⟨v, w', news, hv, hl, hrun, g, cap, cur, rfl, hg, hgb, hh, hnc, hcm, hsz, htk⟩ := hgrew
                intro K Q hk
                have hg' : g = w.heap.size := by simpa using hg
                have hr' := hr.grown hgb (by simp) hv (by rw [hg']; exact hr.le) (.inr (by omega)) hh hcm hsz (by rw [hl]; exact htk)
                refine wp_val (hexec _ _ (by rw [hxe]; exact hrun)) (hk _ _ _ (Ext.snoc _ _) hr' ?_)
                intro q hq
                cases hq
                simp [AV.val, CV.val, ← hr.len, hnc]
              · cases happ
          · rename_i b off n cap
            have hxv : ∃ p c, V[b]? = some p ∧ a.eval x = .slice (some ⟨p.1, off, none⟩) n c ∧ n ≤ c ∧ (cap = none → c = p.2) ∧ (∀ q, cap = some q → c = q) := by
              simp only [AV.val] at hsv
              cases cap with
              | none =>
                simp only [CV.val, Option.bind_eq_some_iff] at hsv
                obtain ⟨p, hp, hv⟩ := hsv
                split at hv
                · rename_i hn
                  simp only [Option.some.injEq] at hv
                  exact ⟨p, p.2, hp, hv.symm, hn, (fun _ => rfl), (fun q hq => by cases hq)⟩
                · cases hv
              | some c =>
                simp only [CV.val] at hsv
                split at hsv
                · rename_i hn
                  simp only [Option.map_eq_some_iff] at hsv
                  obtain ⟨p, hp, hv⟩ := hsv
                  exact ⟨p, c, hp, hv.symm, hn, (fun hq => by cases hq), (fun q hq => by cases hq; rfl)⟩
                · cases hsv
            obtain ⟨p, c, hp, hxe, hnc, hc1, hc2⟩ := hxv
            split at happ
            · rename_i hm
              cases happ
              refine OpOk.val hr hsv (hexec _ _ ?_)
              rw [hxe]
              exact none_case hm _ _ _ hnc
            · rename_i hm
              simp only [Option.bind_eq_some_iff] at happ
              obtain ⟨k, hb, happ⟩ := happ
              split at happ
              · rename_i hc
                obtain ⟨hke, hoff, hnk, hmost, hpos, hrow⟩ := hc
                cases happ
                subst hoff
                have hmost : n + m ≤ 1048576 := hmost
                obtain ⟨q, cur, h1, h2, h3, h4, ⟨vs, h5, h6⟩, h7⟩ := hr.blk b k hb
                rw [hp] at h1; cases h1
                have hvl := vals_length h5
                have hcur : cur.size = c * i.size ∧ c ≤ maxLen := by
                  rcases hrow with ⟨hr1, hr2⟩ | ⟨hr1, hr2, hr3, hr4⟩
                  · rw [hr1] at h7; rw [hc1 hr2]; exact ⟨h7, h3⟩
                  · rw [hr1] at h7
                    have hcq := hc2 _ hr2
                    have hdv : k.xs.length / i.size * i.size = k.xs.length := Nat.div_mul_cancel (Nat.dvd_of_mod_eq_zero hr3)
                    refine ⟨by rw [h7, hcq, hdv], ?_⟩
                    rw [hcq]
                    exact Nat.le_trans (Nat.div_le_self _ _) (Nat.le_trans hr4 (by decide))
                rw [hke] at h4
                have hxs := vals_take (n * i.size) h5
                have hxl : (vs.take (n * i.size)).length = n * i.size := by simp; omega
                have htake : cur.toList.take (n * i.size) = vs.take (n * i.size) := by rw [← h6, List.take_take]; congr 1; omega
                have hgrew : ∃ v w' news, vals σ V cs = some news ∧ news.length = m * i.size ∧ (Builtin.append_ #[t, xt] o.type #[.slice (some ⟨p.1, 0, none⟩) n c, a.eval y]).run P w = .ok v w' ∧ Grew w w' (some p.1) e i.size (n + m) (vs.take (n * i.size) ++ news) v := by
                  generalize a.eval y = yv at hsrc
                  cases hsrc with
                  | mem ad c' news ht hv hl hcc =>
                    subst ht
                    obtain ⟨v, w', g1, g2⟩ := run_append_grew w xt o.type e i zv he hi hz hzs p.1 n c cur _ h4 hcur.1 hcur.2 hxl htake ad m c' news hl hcc (vals_one hv) hmost hby
                    exact ⟨v, w', news, hv, hl, g1, g2⟩
                  | none ht hm' c => exact (hm hm').elim
                  | str s hu hm' hs1 hv =>
                    subst hm'
                    obtain ⟨v, w', g1, g2⟩ := run_append_grew_string w t xt o.type e i zv he hu hi hz hzs hs1 p.1 n c cur _ h4 hcur.1 hcur.2 hxl htake s hmost hby
                    exact ⟨v, w', _, hv, by rw [strCells_length, hs1, Nat.mul_one], g1, g2⟩
                obtain ⟨v, w', news, hv, hl, hrun, g, cap', cur', rfl, hg, hgb, hh, hnc', hcm', hsz', htk'⟩ := hgrew
                intro K Q hk
                have hB := hr.le
                have hr' := (hr.kill b).grown hgb (fun r hr0 => by
                    cases hr0
                    refine ⟨h2, fun b' k' p' hb' hp' he' => ?_⟩
                    rcases T.get_set _ _ _ _ _ _ hb' with ⟨_, hk'⟩ | ⟨hne, hk'⟩
                    · cases hk'
                    · exact hne (hr.inj b' b k' k p' p hk' hb hp' hp he')) (vals_append hxs hv)
                    (by rcases hg with hg | hg
                        · cases hg; exact h2
                        · omega) (by rcases hg with hg | hg
                                     · exact .inl hg
                                     · exact .inr (by omega)) hh hcm' hsz' (by rw [List.length_append, hxl, hl, ← Nat.add_mul]; exact htk')
                refine wp_val (hexec _ _ (by rw [hxe]; exact hrun)) (hk _ _ _ (Ext.snoc _ _) hr' ?_)
                intro q hq
                cases hq
                simp [AV.val, CV.val, ← hr.len, hnc']
              · cases happ
          · cases happ
        · cases happ
    · cases happ
  · cases happ

end
end Go.CX

/- The executor's other operations as operations of the model; all of them together. -/
namespace Go.CX
open Go.RowKit (Below)

section
variable {σ : Nat → Value} {P : Program} {B : Nat} {w0 : World} {V : Vn} {nt : Nat} {h h' : Heap} {w : World} {fr : T AV} {a : Act} {o : Oper} {t : TypeId} {x y : Operand}

theorem eval_known {v : Value} {z : AV} (hf : FRel σ V nt fr a) (hx : evalO fr x = some z) (hk : z.known = some v) : a.eval x = v :=
  known_val hk (evalO_val hf hx)

theorem eval_sl {b off n : Nat} {cap : Option Nat} (hf : FRel σ V nt fr a) (hx : evalO fr x = some (.c (.sl b off n cap))) :
    ∃ p c, V[b]? = some p ∧ a.eval x = .slice (some ⟨p.1, off, none⟩) n c ∧ n ≤ c ∧ (cap = none → c = p.2) ∧ (∀ q, cap = some q → c = q) := by
  have hsv := evalO_val hf hx
  simp only [AV.val] at hsv
  cases cap with
  | none =>
    simp only [CV.val, Option.bind_eq_some_iff] at hsv
    obtain ⟨p, hp, hv⟩ := hsv
    split at hv
    · rename_i hn
      simp only [Option.some.injEq] at hv
      exact ⟨p, p.2, hp, hv.symm, hn, (fun _ => rfl), (fun q hq => by cases hq)⟩
    · cases hv
  | some c =>
    simp only [CV.val] at hsv
    split at hsv
    · rename_i hn
      simp only [Option.map_eq_some_iff] at hsv
      obtain ⟨p, hp, hv⟩ := hsv
      exact ⟨p, c, hp, hv.symm, hn, (fun hq => by cases hq), (fun q hq => by cases hq; rfl)⟩
    · cases hsv

theorem equalIn_ptr (d : Nat) {e : TypeId} (hu : P.underlying t = some (.pointer e)) (ad : Addr) (w : World) :
    (Op.equalIn (d + 1) t (.pointer (some ad)) (.pointer none)).run P w = .ok false w ∧ (Op.equalIn (d + 1) t (.pointer none) (.pointer (some ad))).run P w = .ok false w := by
  simp [Op.equalIn, run_underlying hu]

theorem equalIn_sl (d : Nat) {e : TypeId} (hu : P.underlying t = some (.slice e)) (ad : Addr) (n c m k : Nat) (w : World) :
    (Op.equalIn (d + 1) t (.slice (some ad) n c) (.slice none m k)).run P w = .ok false w ∧ (Op.equalIn (d + 1) t (.slice none m k) (.slice (some ad) n c)).run P w = .ok false w := by
  simp [Op.equalIn, run_underlying hu]

theorem nilEq_eq {u v : Value} {s z : AV} {r : Bool} (hn : nilEq P t s z = some r) (hs : s.val σ V = some u) (hz : z.val σ V = some v) :
    r = false ∧ ∀ w, (Op.equal t u v).run P w = .ok false w := by
  have ptr : ∀ (b off : Nat) (u : Value), AV.val σ V (.c (.ptr b off)) = some u → ∃ ad, u = .pointer (some ad) := by
    intro b off u hu
    simp only [AV.val, CV.val, Option.map_eq_some_iff] at hu
    obtain ⟨p, _, rfl⟩ := hu
    exact ⟨_, rfl⟩
  have lit : ∀ (l u : Value), AV.val σ V (.c (.lit l)) = some u → u = l := by
    intro l u hu
    simp only [AV.val, CV.val] at hu
    split at hu <;> cases hu
    rfl
  have sl : ∀ (b off n : Nat) (c : Option Nat) (u : Value), AV.val σ V (.c (.sl b off n c)) = some u → ∃ ad n c, u = .slice (some ad) n c := by
    intro b off n c u hu
    simp only [AV.val] at hu
    cases c with
    | none =>
      simp only [CV.val, Option.bind_eq_some_iff] at hu
      obtain ⟨p, _, hu⟩ := hu
      split at hu <;> cases hu
      exact ⟨_, _, _, rfl⟩
    | some c =>
      simp only [CV.val] at hu
      split at hu
      · simp only [Option.map_eq_some_iff] at hu
        obtain ⟨p, _, rfl⟩ := hu
        exact ⟨_, _, _, rfl⟩
      · cases hu
  unfold nilEq at hn
  split at hn
  · rename_i e b off hu
    cases hn
    obtain ⟨ad, rfl⟩ := ptr _ _ _ hs
    have := lit _ _ hz; subst this
    exact ⟨rfl, fun w => (equalIn_ptr 9999 hu ad w).1⟩
  · rename_i e b off hu
    cases hn
    obtain ⟨ad, rfl⟩ := ptr _ _ _ hz
    have := lit _ _ hs; subst this
    exact ⟨rfl, fun w => (equalIn_ptr 9999 hu ad w).2⟩
  · rename_i e _ _ _ _ _ _ hu
    cases hn
    obtain ⟨ad, n, c, rfl⟩ := sl _ _ _ _ _ hs
    have := lit _ _ hz; subst this
    exact ⟨rfl, fun w => (equalIn_sl 9999 hu ad _ _ _ _ w).1⟩
  · rename_i e _ _ _ _ _ _ hu
    cases hn
    obtain ⟨ad, n, c, rfl⟩ := sl _ _ _ _ _ hz
    have := lit _ _ hs; subst this
    exact ⟨rfl, fun w => (equalIn_sl 9999 hu ad _ _ _ _ w).2⟩
  · cases hn

theorem nilEq_shape {u v : Value} {s z : AV} {r : Bool} (hn : nilEq P t s z = some r) (hs : s.val σ V = some u) (hz : z.val σ V = some v) :
    (∀ p q, u = .pointer p → v = .pointer q → True) ∧ ((∃ p q, u = .pointer p ∧ v = .pointer q) ∨ (∃ p n c q m d, u = .slice p n c ∧ v = .slice q m d)) := by
  refine ⟨fun _ _ _ _ => trivial, ?_⟩
  unfold nilEq at hn
  have lit : ∀ (l u : Value), AV.val σ V (.c (.lit l)) = some u → u = l := by
    intro l u hu
    simp only [AV.val, CV.val] at hu
    split at hu <;> cases hu
    rfl
  have ptr : ∀ (b off : Nat) (u : Value), AV.val σ V (.c (.ptr b off)) = some u → ∃ ad, u = .pointer (some ad) := by
    intro b off u hu
    simp only [AV.val, CV.val, Option.map_eq_some_iff] at hu
    obtain ⟨p, _, rfl⟩ := hu
    exact ⟨_, rfl⟩
  have sl : ∀ (b off n : Nat) (c : Option Nat) (u : Value), AV.val σ V (.c (.sl b off n c)) = some u → ∃ ad n c, u = .slice (some ad) n c := by
    intro b off n c u hu
    simp only [AV.val] at hu
    cases c with
    | none =>
      simp only [CV.val, Option.bind_eq_some_iff] at hu
      obtain ⟨p, _, hu⟩ := hu
      split at hu <;> cases hu
      exact ⟨_, _, _, rfl⟩
    | some c =>
      simp only [CV.val] at hu
      split at hu
      · simp only [Option.map_eq_some_iff] at hu
        obtain ⟨p, _, rfl⟩ := hu
        exact ⟨_, _, _, rfl⟩
      · cases hu
  split at hn
  · obtain ⟨ad, rfl⟩ := ptr _ _ _ hs; have := lit _ _ hz; exact .inl ⟨_, _, rfl, this⟩
  · obtain ⟨ad, rfl⟩ := ptr _ _ _ hz; have := lit _ _ hs; exact .inl ⟨_, _, this, rfl⟩
  · obtain ⟨ad, n, c, rfl⟩ := sl _ _ _ _ _ hs; have := lit _ _ hz; exact .inr ⟨_, _, _, _, _, _, rfl, this⟩
  · obtain ⟨ad, n, c, rfl⟩ := sl _ _ _ _ _ hz; have := lit _ _ hs; exact .inr ⟨_, _, _, _, _, _, this, rfl⟩
  · cases hn

theorem op_binO {op : BinOp} {yt : TypeId} (ho : o.op = .binOp op t x y yt) (hr : HRel σ B w0 V h w) (hf : FRel σ V nt fr a) {s z r : AV}
    (hx : evalO fr x = some s) (hy : evalO fr y = some z) (hb : binO P op t x y s z = some r) : OpOk σ P B w0 V h a w o (some r) := by
  unfold binO at hb
  split at hb
  · rename_i v u hkv hku
    simp only [Option.bind_eq_some_iff] at hb
    obtain ⟨q, hq, hof⟩ := hb
    refine OpOk.val hr (ofValue_val V hof) ?_
    have := pureRun_run hq w
    simp only [execOp, ho, eval_known hf hx hkv, eval_known hf hy hku]
    rw [Sem.run_bind, this]
    rfl
  · have hs := evalO_val hf hx
    have hz := evalO_val hf hy
    split at hb
    · simp only [Option.map_eq_some_iff] at hb
      obtain ⟨c, hc, rfl⟩ := hb
      obtain ⟨hc', heq⟩ := nilEq_eq hc hs hz
      have hsh := (nilEq_shape hc hs hz).2
      refine OpOk.val hr (v := .bool c) rfl ?_
      have hg : (eqGuard .eql t x y (a.eval x) (a.eval y)).run P w = .ok () w := by
        rcases hsh with ⟨p, q, e1, e2⟩ | ⟨p, n, c, q, m, d, e1, e2⟩ <;> rw [e1, e2] <;> rfl
      have hbin : (binOp .eql t (a.eval x) (a.eval y)).run P w = .ok (.bool c) w := by
        have := heq w
        rcases hsh with ⟨p, q, e1, e2⟩ | ⟨p, n, c, q, m, d, e1, e2⟩ <;> rw [e1, e2] at this ⊢ <;> simp [binOp, this, hc']
      simp only [execOp, ho, Sem.run_bind, hg, Result.andThen_ok, hbin, Sem.run_pure]
    · simp only [Option.map_eq_some_iff] at hb
      obtain ⟨c, hc, rfl⟩ := hb
      obtain ⟨hc', heq⟩ := nilEq_eq hc hs hz
      have hsh := (nilEq_shape hc hs hz).2
      refine OpOk.val hr (v := .bool (!c)) rfl ?_
      have hg : (eqGuard .neq t x y (a.eval x) (a.eval y)).run P w = .ok () w := by
        rcases hsh with ⟨p, q, e1, e2⟩ | ⟨p, n, c, q, m, d, e1, e2⟩ <;> rw [e1, e2] <;> rfl
      have hbin : (binOp .neq t (a.eval x) (a.eval y)).run P w = .ok (.bool (!c)) w := by
        have := heq w
        rcases hsh with ⟨p, q, e1, e2⟩ | ⟨p, n, c, q, m, d, e1, e2⟩ <;> rw [e1, e2] at this ⊢ <;> simp [binOp, this, hc']
      simp only [execOp, ho, Sem.run_bind, hg, Result.andThen_ok, hbin, Sem.run_pure]
    · cases hb

theorem op_makeO {l c : Operand} (ho : o.op = .makeSlice t l c) (hr : HRel σ B w0 V h w) (hf : FRel σ V nt fr a) {s z r : AV}
    (hx : evalO fr l = some s) (hy : evalO fr c = some z) (hm : makeO P h t s z = some (r, h')) : OpOk σ P B w0 V h' a w o (some r) := by
  unfold makeO at hm
  split at hm
  · rename_i e kn n km m he
    simp only [Option.bind_eq_some_iff] at hm
    obtain ⟨i, hi, zc, ⟨zv, hz, hof⟩, hm⟩ := hm
    split at hm
    · rename_i hc
      obtain ⟨hzl, hnt, h0, hnm, hmm, hby⟩ := hc
      have hnt : zc.isTup = false := by simpa using hnt
      cases hm
      have hcz := cells_val hnt (ofValue_val (σ := σ) V hof)
      have hzs : zv.cells.size = i.size := by have := vals_length hcz; simp at this; omega
      have e1 := eval_lit hf hx
      have e2 := eval_lit hf hy
      have hbm : (i.bytes : Int) * m ≤ 281474976710656 := by
        have : (i.bytes : Int) * m ≤ 4096 * 65536 := Int.mul_le_mul (by omega) hmm (by omega) (by omega)
        omega
      have hrun := run_make (P := P) w t e i zv he hi hz kn km n m h0 hnm hbm (by omega)
      have hrg := range_rep m.toNat i.size zv.cells hzs
      have hmade : madeCells zv.cells (m.toNat * i.size) = ((List.replicate m.toNat zv.cells.toList).flatten).toArray := by
        apply Array.ext'
        rw [List.toList_toArray]
        simpa [madeCells] using hrg
      have hr' := hr.alloc e (rep m.toNat zc.cells) _ (vals_flat hcz m.toNat)
      intro K Q hk
      refine wp_val (v := .slice (some ⟨w.heap.size, 0, none⟩) n.toNat m.toNat) ?_ (hk _ _ _ (Ext.snoc _ _) hr' ?_)
      · simp only [execOp, ho, e1, e2, Sem.run_bind, hrun, Result.andThen_ok, Sem.run_pure, hmade]
      · intro q hq
        cases hq
        have : n.toNat ≤ m.toNat := by omega
        simp [AV.val, CV.val, ← hr.len, this]
    · cases hm
  · cases hm

theorem bound_more {v : Value} {y y' : Nat} {code : BoundsCode} {q : Nat} (hy : y ≤ y') (hp : pureRun P (Instr.sliceBound v y code) = some q) (w : World) (code' : BoundsCode) :
    (Instr.sliceBound v y' code').run P w = .ok q w ∧ q ≤ y := by
  unfold Instr.sliceBound at hp ⊢
  cases v with
  | int k i =>
    by_cases hh : 0 ≤ i ∧ i ≤ y
    · have h2 : 0 ≤ i ∧ i ≤ y' := ⟨hh.1, by omega⟩
      have hp' := pureRun_run hp w
      simp [asIntOf, hh] at hp'
      simp [asIntOf, h2, hp']
      omega
    · exfalso
      simp only [asIntOf, pure_bind, if_neg hh] at hp
      unfold boundsPanic at hp
      split at hp <;> cases hp
  | pointer p => cases p <;> cases hp
  | _ => cases hp

theorem pureRun_bind {α β : Type} {s : Sem α} {f : α → Sem β} {r : β} (hp : pureRun P (s >>= f) = some r) : ∃ q, pureRun P s = some q ∧ pureRun P (f q) = some r := by
  replace hp : pureRun P (s.bind f) = some r := hp
  induction s with
  | pure q => exact ⟨q, rfl, hp⟩
  | program k ih => exact ih P hp
  | _ => cases hp

theorem bounds_more {n c : Nat} (hnc : n ≤ c) {lo hi : Option Value} {r : Nat × Nat × Nat} (hp : pureRun P (Instr.sliceBounds true n n lo hi none) = some r) (w : World) :
    (Instr.sliceBounds true n c lo hi none).run P w = .ok (r.1, r.2.1, c) w ∧ r.2.1 ≤ n ∧ r.1 ≤ r.2.1 := by
  cases hi with
  | none =>
    cases lo with
    | none =>
      have := pureRun_run hp w
      simp [Instr.sliceBounds] at this ⊢
      subst this
      simp
    | some v =>
      simp only [Instr.sliceBounds, pure_bind] at hp
      obtain ⟨q, hq, hp⟩ := pureRun_bind hp
      cases hp
      have := bound_more (Nat.le_refl n) hq w .sliceB
      simp [Instr.sliceBounds, this.1, this.2]
  | some u =>
    simp only [Instr.sliceBounds, pure_bind] at hp
    obtain ⟨q, hq, hp⟩ := pureRun_bind hp
    have h1 := bound_more hnc hq w .sliceAcap
    cases lo with
    | none =>
      cases hp
      simp [Instr.sliceBounds, h1.1, h1.2]
    | some v =>
      simp only [] at hp
      obtain ⟨q', hq', hp⟩ := pureRun_bind hp
      cases hp
      have h2 := bound_more (Nat.le_refl q) hq' w .sliceB
      simp [Instr.sliceBounds, h1.1, h1.2, h2.1, h2.2]

theorem op_sliceO {lo hi mx : Option Operand} (ho : o.op = .slice t x lo hi mx) (hr : HRel σ B w0 V h w) (hf : FRel σ V nt fr a) {s r : AV} {l u m : Option Value}
    (hx : evalO fr x = some s) (hl : optKnown fr lo = some l) (hu : optKnown fr hi = some u) (hm : optKnown fr mx = some m) (hs : sliceO P s l u m t = some r) : OpOk σ P B w0 V h a w o (some r) := by
  have opt : ∀ {q : Option Operand} {v : Option Value}, optKnown fr q = some v → q.map a.eval = v := by
    intro q v hq
    cases q with
    | none => simp [optKnown] at hq; subst hq; rfl
    | some q =>
      simp only [optKnown, Option.bind_eq_some_iff, Option.map_eq_some_iff] at hq
      obtain ⟨z, hz, k, hk, rfl⟩ := hq
      simp [eval_known hf hz hk]
  have e1 := opt hl
  have e2 := opt hu
  have e3 := opt hm
  have hexec : ∀ v, (Instr.sliceAt t (a.eval x) l u m).run P w = .ok v w → (execOp a.eval o).run P w = .ok (.value v) w := by
    intro v hv
    simp only [execOp, ho, e1, e2, e3, Sem.run_bind, hv, Result.andThen_ok, Sem.run_pure]
  unfold sliceO at hs
  split at hs
  · rename_i b off n cap
    obtain ⟨p, c, hp, he, hnc, hc1, hc2⟩ := eval_sl hf hx
    split at hs
    · rename_i e hte
      have hsl : ∀ v, (Instr.slice t (a.eval x) l u none).run P w = .ok v w → (Instr.sliceAt t (a.eval x) l u none).run P w = .ok v w := by
        intro v hv
        simp only [Instr.sliceAt, Sem.run_bind, run_underlying hte, Result.andThen_ok, hv]
      split at hs
      · rename_i size c' hsz
        have hcc := hc2 _ rfl
        subst hcc
        simp only [Option.bind_eq_some_iff] at hs
        obtain ⟨q, hq, hs⟩ := hs
        have g1 := pureRun_run hq w
        split at hs
        · rename_i hle
          split at hs
          · rename_i hmz
            cases hs
            refine OpOk.val hr (v := .slice (some ⟨p.1, off, none⟩) (q.2.1 - q.1) 0) ?_ (hexec _ (hsl _ ?_))
            · have : q.2.1 - q.1 ≤ 0 := by omega
              simp only [AV.val, CV.val, this, if_true, hp, Option.map_some]
            · rw [he]
              simp only [Instr.slice, Sem.run_bind, run_underlying hte, Result.andThen_ok, g1, run_sizeOf' hsz, Sem.run_pure, hmz, if_true, Nat.sub_self]
          · rename_i hmz
            cases hs
            refine OpOk.val hr (v := .slice (some ⟨p.1, off + q.1 * size, none⟩) (q.2.1 - q.1) (q.2.2 - q.1)) ?_ (hexec _ (hsl _ ?_))
            · have : q.2.1 - q.1 ≤ q.2.2 - q.1 := by omega
              simp only [AV.val, CV.val, this, if_true, hp, Option.map_some]
            · rw [he]
              simp only [Instr.slice, Sem.run_bind, run_underlying hte, Result.andThen_ok, g1, run_sizeOf' hsz, Sem.run_pure, hmz, if_false, Option.map_some, add_lit']
        · cases hs
      · rename_i s' hsz
        simp only [Option.bind_eq_some_iff] at hs
        obtain ⟨q, hq, hs⟩ := hs
        split at hs
        · rename_i h0
          cases hs
          obtain ⟨g1, g2, g3⟩ := bounds_more hnc hq w
          have hcp := hc1 rfl
          refine OpOk.val hr (v := .slice (some ⟨p.1, off, none⟩) q.2.1 c) ?_ (hexec _ (hsl _ ?_))
          · have : q.2.1 ≤ p.2 := by omega
            simp [AV.val, CV.val, hp, this, hcp]
          · rw [he]
            simp only [Instr.slice, Sem.run_bind, run_underlying hte, Result.andThen_ok, g1, run_sizeOf' hsz, Sem.run_pure, h0, Nat.sub_zero, Nat.zero_mul, Option.map_some]
            congr 2
            split <;> simp [Addr.add]
        · cases hs
      · cases hs
    · cases hs
  · simp only [Option.bind_eq_some_iff] at hs
    obtain ⟨v, hv, q, hq, hof⟩ := hs
    refine OpOk.val hr (ofValue_val V hof) (hexec _ ?_)
    rw [eval_known hf hx hv]
    exact pureRun_run hq w

end
end Go.CX

/- Every operation of the executor, lists of them, regions without a draw, code. -/
namespace Go.CX
open Go.RowKit (Below)

section
variable {σ : Nat → Value} {P : Program} {B : Nat} {w0 : World} {V : Vn} {nt : Nat} {h h' : Heap} {w : World} {fr : T AV} {a : Act} {o : Oper} {t : TypeId} {x y : Operand} {ts : Array TypeId}

theorem op_copyO (ho : o.op = .call { callee := .builtin .copy, args := #[x, y], argTypes := ts }) (hr : HRel σ B w0 V h w) (hf : FRel σ V nt fr a) {s z r : AV}
    (hx : evalO fr x = some s) (hy : evalO fr y = some z) (hc : copyO P h ts.toList s z = some (r, h')) : OpOk σ P B w0 V h' a w o (some r) := by
  have hexec : ∀ (v : Value) (w' : World), (Builtin.copy_ ts o.type #[a.eval x, a.eval y]).run P w = .ok v w' → (execOp a.eval o).run P w = .ok (.value v) w' := by
    intro v w' hrun
    simp only [execOp, ho, resolve, invoke, builtin, Sem.run_bind, Sem.run_pure, Result.andThen_ok, List.map_toArray, List.map_cons, List.map_nil, hrun]
  unfold copyO at hc
  split at hc
  · rename_i t xt b off n cap htl
    have hts : ts = #[t, xt] := by apply Array.ext'; simpa using htl
    subst hts
    obtain ⟨p, c, hp, he, hnc, _, _⟩ := eval_sl hf hx
    split at hc
    · rename_i e hte
      split at hc
      · rename_i b' off' m cap' hsz
        obtain ⟨p', c', hp', he', hnc', _, _⟩ := eval_sl hf hy
        simp only [Option.bind_eq_some_iff] at hc
        obtain ⟨k', hb', hc⟩ := hc
        split at hc
        · rename_i hle
          simp only [Option.bind_eq_some_iff, Option.map_eq_some_iff] at hc
          obtain ⟨k, hb, ys, hys, hrr⟩ := hc
          cases hrr
          obtain ⟨vs', hv', hl', hc'⟩ := hr.rowCells hb' hp' hle
          obtain ⟨q, cur, h1, h2, h3, h4, ⟨vs, h5, h6⟩, h7⟩ := hr.blk b k hb
          rw [hp] at h1; cases h1
          have hu := vals_take (min m n) hv'
          obtain ⟨hle2, hlen, hyv⟩ := splice_val hys h5 hu
          have hul : (vs'.take (min m n)).length = min m n := by simp; omega
          have hvl := vals_length h5
          have hcur : vs.length ≤ cur.size := by have := congrArg List.length h6; simp at this; omega
          have hrun := run_copy_row P w t xt o.type e p.1 off n c ⟨p'.1, off', none⟩ m c' cur k.e (vs'.take (min m n)) hte hsz h4 hul
            (fun j v hj => hc' j v (by rw [List.getElem?_take] at hj; split at hj; exact hj; cases hj)) (by omega) (vals_one hu)
          intro K Q hk
          refine wp_val (hexec _ _ (by rw [he, he']; exact hrun)) (hk V _ _ (Ext.refl V) (hr.setRow hb hp ys _ _ hyv ?_ ?_) ?_)
          · have := splice_take cur.toList (vs'.take (min m n)) off vs.length hle2 (by simpa using hcur)
            rw [h6] at this
            rw [List.toList_toArray, show (vs.take off ++ vs'.take (min m n) ++ vs.drop (off + (vs'.take (min m n)).length)).length = vs.length from by simp at hle2 ⊢; omega]
            exact this
          · revert h7
            cases k.row with
            | none => intro h7; simp at hle2 ⊢; omega
            | some s => intro h7; simp at hle2 h7 ⊢; omega
          · intro y hy
            cases hy
            have : ((min m n : Nat) : Int) = min (m : Int) (n : Int) := by omega
            simp [AV.val, CV.val, oneCell, goInt, hul, this]
        · cases hc
      · rename_i s' hsz
        cases hc
        have he' := eval_lit hf hy
        refine OpOk.val hr (v := goInt 0) rfl (hexec _ _ ?_)
        rw [he, he']
        exact run_copy_nil P w t xt o.type e _ n c hte (by unfold sizeOfT at hsz; rw [hsz]; rfl)
      · cases hc
    · cases hc
  · cases hc

/-- What a way of calling promises. -/
def CallOk (σ : Nat → Value) (P : Program) (B : Nat) (w0 : World) (call : FuncId → List AV → Heap → Option (AV × Heap)) : Prop :=
  ∀ f args h res h', call f args h = some (res, h') →
    (∃ fn, P.funcs[f]? = some fn ∧ fn.name ≠ "runtime.NumGoroutine" ∧ fn.body.isSome) ∧
    ∀ V w vs, HRel σ B w0 V h w → avals σ V args = some vs →
      Calls P f vs.toArray w (fun e w' => ∃ V' v, Ext V V' ∧ HRel σ B w0 V' h' w' ∧ res.val σ V' = some v ∧ e = .returned v)

theorem ptrs_avals {V : Vn} : ∀ {ps : List (Nat × Nat)} {vs : List Value}, ptrsVal V ps = some vs → avals σ V (ps.map fun (b, o) => AV.c (.ptr b o)) = some vs := by
  intro ps
  induction ps with
  | nil => intro vs h; simp [ptrsVal] at h; subst h; rfl
  | cons p r ih =>
    intro vs h
    simp only [ptrsVal, Option.bind_eq_some_iff, Option.map_eq_some_iff] at h
    obtain ⟨q, hq, us, hu, rfl⟩ := h
    simp [avals, AV.val, CV.val, hq, ih hu]

theorem avals_append {V : Vn} : ∀ {l m : List AV} {vs us : List Value}, avals σ V l = some vs → avals σ V m = some us → avals σ V (l ++ m) = some (vs ++ us) := by
  intro l
  induction l with
  | nil => intro m vs us h1 h2; simp [avals] at h1; subst h1; simpa using h2
  | cons x r ih =>
    intro m vs us h1 h2
    simp only [avals, List.cons_append, Option.bind_eq_some_iff, Option.map_eq_some_iff] at h1 ⊢
    obtain ⟨v, hp, ws, hu, rfl⟩ := h1
    exact ⟨v, hp, ws ++ us, ih hu h2, rfl⟩

theorem op_call {call : FuncId → List AV → Heap → Option (AV × Heap)} (hcall : CallOk σ P B w0 call) {c : Call} {g : Operand} (ho : o.op = .call c) (hg : c.callee = .value g)
    (hr : HRel σ B w0 V h w) (hf : FRel σ V nt fr a) {f : FuncId} {ps : List (Nat × Nat)} {vs : List AV} {r : AV} (he : evalO fr g = some (.c (.fn (.func f) ps))) (hv : evalOs fr c.args.toList = some vs)
    (hc : call f (vs ++ ps.map fun (b, o) => .c (.ptr b o)) h = some (r, h')) : OpOk σ P B w0 V h' a w o (some r) := by
  obtain ⟨⟨fn, hfn, hname, hbody⟩, hcalls⟩ := hcall _ _ _ _ _ hc
  have hgv := evalO_val hf he
  simp only [AV.val, CV.val, Option.map_eq_some_iff] at hgv
  obtain ⟨caps, hcaps, hge⟩ := hgv
  have hargs := avals_append (evalOs_val hf hv) (ptrs_avals (σ := σ) hcaps)
  have hexec : (execOp a.eval o).run P w = .ok (.enter f (c.args.toList.map a.eval ++ caps).toArray) w := by
    have hn : (fn.name == "runtime.NumGoroutine") = false := by simpa using hname
    have hb : fn.body.isNone = false := by cases hq : fn.body <;> simp_all
    simp only [execOp, ho, resolve, hg, ← hge, Deferred.ofValue, pure_bind, invoke, callFunc, Sem.run_bind, run_program, Result.andThen_ok, hfn, hn, hb]
    simp
  intro K Q hk
  unfold Oper.wp
  rw [hexec]
  refine (hcalls V w _ hr hargs).mono ?_
  rintro e w' ⟨V', v, h1, h2, h3, rfl⟩
  exact hk V' v w' h1 h2 (fun y hy => by cases hy; exact h3)

theorem mapKnown : ∀ {vs : List AV} {us ws : List Value}, vs.mapM AV.known = some us → avals σ V vs = some ws → ws = us := by
  intro vs
  induction vs with
  | nil => intro us ws h1 h2; simp at h1; simp [avals] at h2; rw [h2, h1]
  | cons x r ih =>
    intro us ws h1 h2
    simp only [List.mapM_cons, Option.pure_def, Option.bind_eq_bind, Option.bind_eq_some_iff, Option.some.injEq] at h1
    obtain ⟨u, hu, us', hus, rfl⟩ := h1
    simp only [avals, Option.bind_eq_some_iff, Option.map_eq_some_iff] at h2
    obtain ⟨v, hv, vs', hvs, rfl⟩ := h2
    rw [ih hus hvs, known_val hu hv]

theorem op_ok {call : FuncId → List AV → Heap → Option (AV × Heap)} (hcall : CallOk σ P B w0 call) (hr : HRel σ B w0 V h w) (hf : FRel σ V nt fr a) {r : Option AV}
    (hx : opX P call fr h o = some (r, h')) : OpOk σ P B w0 V h' a w o r := by
  unfold opX at hx
  cases ho : o.op with
  | move x =>
    simp only [ho, Option.map_eq_some_iff] at hx
    obtain ⟨y, hy, he⟩ := hx; cases he
    exact OpOk.val hr (evalO_val hf hy) (by simp only [execOp, ho]; rfl)
  | assign x =>
    simp only [ho, Option.map_eq_some_iff] at hx
    obtain ⟨y, hy, he⟩ := hx; cases he
    exact OpOk.val hr (evalO_val hf hy) (by simp only [execOp, ho]; rfl)
  | pick c x y =>
    simp only [ho] at hx
    split at hx
    · rename_i g hg
      simp only [Option.map_eq_some_iff] at hx
      obtain ⟨z, hz, he⟩ := hx; cases he
      have hc := eval_lit hf hg
      cases g with
      | true =>
        simp only [if_true] at hz
        exact OpOk.val hr (evalO_val hf hz) (by simp [execOp, ho, hc, asBool])
      | false =>
        simp only [Bool.false_eq_true, if_false] at hz
        exact OpOk.val hr (evalO_val hf hz) (by simp [execOp, ho, hc, asBool])
    · cases hx
  | alloc e =>
    simp only [ho, Option.bind_eq_some_iff] at hx
    obtain ⟨z, hz, hx⟩ := hx
    split at hx
    · cases hx
    · rename_i hnt; cases hx; exact op_alloc ho hr hz (by simpa using hnt)
  | box e x =>
    simp only [ho, Option.bind_eq_some_iff] at hx
    obtain ⟨z, hz, hx⟩ := hx
    split at hx
    · cases hx
    · rename_i hnt; cases hx; exact op_box ho hr hf hz (by simpa using hnt)
  | build t parts =>
    simp only [ho, Option.bind_eq_some_iff] at hx
    obtain ⟨vs, hv, z, hz, hx⟩ := hx
    split at hx
    · cases hx
    · rename_i hnt
      have hnt : z.isTup = false := by simpa using hnt
      split at hx
      · rename_i fs hu
        simp only [Option.bind_eq_some_iff, Option.map_eq_some_iff] at hx
        obtain ⟨pl, hpl, cs, hcs, he⟩ := hx; cases he
        exact op_build_struct ho hr hf hv hz hnt hu hpl hcs
      · rename_i m e hu
        simp only [Option.bind_eq_some_iff, Option.map_eq_some_iff] at hx
        obtain ⟨n, hn, cs, hcs, he⟩ := hx; cases he
        exact op_build_array ho hr hf hv hz hnt hu hn hcs
      · cases hx
  | buildSlice t len parts =>
    simp only [ho, Option.bind_eq_some_iff] at hx
    obtain ⟨vs, hv, hx⟩ := hx
    split at hx
    · rename_i e hu
      simp only [Option.bind_eq_some_iff] at hx
      obtain ⟨i, hi, z, ⟨zv, hz, hof⟩, hx⟩ := hx
      split at hx
      · rename_i hc
        simp only [Option.map_eq_some_iff] at hx
        obtain ⟨cs, hcs, he⟩ := hx; cases he
        exact op_buildSlice ho hr hf hv hu hi hz hof (by simpa using hc.2.1) hc.1 hc.2.2 hcs
      · cases hx
    · cases hx
  | load t x =>
    simp only [ho, Option.map_eq_some_iff, Option.bind_eq_some_iff] at hx
    obtain ⟨y, ⟨p, hp, hl⟩, he⟩ := hx; cases he
    exact op_load ho hr hf hp hl
  | store t x y =>
    simp only [ho, Option.map_eq_some_iff, Option.bind_eq_some_iff] at hx
    obtain ⟨p, hp, z, hz, h1, hs, he⟩ := hx; cases he
    exact op_store ho hr hf hp hz hs
  | nilCheck x =>
    simp only [ho] at hx
    split at hx
    · rename_i b off hp
      simp only [Option.map_some, Option.some.injEq, Prod.mk.injEq] at hx
      obtain ⟨rfl, rfl⟩ := hx
      obtain ⟨q, hq, he⟩ := eval_ptr hf hp
      refine OpOk.val hr (v := .pointer (some ⟨q.1, off, none⟩)) (by simp [AV.val, CV.val, hq]) ?_
      simp only [execOp, ho, he]; rfl
    · cases hx
  | binOp op t x y yt =>
    simp only [ho, Option.map_eq_some_iff, Option.bind_eq_some_iff] at hx
    obtain ⟨s, hs, z, hz, q, hq, he⟩ := hx; cases he
    exact op_binO ho hr hf hs hz hq
  | unOp op t x =>
    simp only [ho, Option.map_eq_some_iff, Option.bind_eq_some_iff] at hx
    obtain ⟨s, hs, u, hu, q, ⟨v, hv, hof⟩, he⟩ := hx; cases he
    refine OpOk.val hr (ofValue_val V hof) ?_
    simp only [execOp, ho, eval_known hf hs hu, Sem.run_bind, pureRun_run hv w, Result.andThen_ok, Sem.run_pure]
  | convert s d x =>
    simp only [ho, convO, Option.map_eq_some_iff, Option.bind_eq_some_iff] at hx
    obtain ⟨s', hs, q, ⟨v, hv, u, hu, q', hof, he'⟩, he⟩ := hx; cases he; cases he'
    refine OpOk.val hr (ofValue_val V hof) ?_
    simp only [execOp, ho, eval_known hf hs hv, Sem.run_bind, pureRun_run hu w, Result.andThen_ok, Sem.run_pure]
  | makeFunc f first caps =>
    simp only [ho] at hx
    split at hx
    · rename_i h0
      simp only [Option.map_eq_some_iff, Option.bind_eq_some_iff] at hx
      obtain ⟨vs, hv, ps, hps, he⟩ := hx; cases he
      have hfirst : first = #[] := by apply Array.ext'; simpa using h0
      have hcp : ∀ {vs : List AV} {ps : List (Nat × Nat)} {us : List Value}, capPtrs vs = some ps → avals σ V vs = some us → ptrsVal V ps = some us := by
        intro vs
        induction vs with
        | nil => intro ps us h1 h2; simp [capPtrs] at h1; simp [avals] at h2; subst h1; subst h2; rfl
        | cons x r ih =>
          intro ps us h1 h2
          match x, h1 with
          | .c (.ptr b o), h1 =>
            simp only [capPtrs, Option.map_eq_some_iff] at h1
            obtain ⟨qs, hq, rfl⟩ := h1
            simp only [avals, AV.val, CV.val, Option.bind_eq_some_iff, Option.map_eq_some_iff] at h2
            obtain ⟨v, ⟨p, hp, rfl⟩, ws, hw, rfl⟩ := h2
            simp only [ptrsVal, hp, Option.bind_some, ih hq hw, Option.map_some]
          | .c (.lit _), h1 | .c (.sym _), h1 | .c (.sl ..), h1 | .c (.fn ..), h1 | .agg _, h1 | .tup _, h1 => simp [capPtrs] at h1
      have hpv := hcp hps (evalOs_val hf hv)
      refine OpOk.val hr (v := .func f #[] (caps.toList.map a.eval).toArray) (by simp [AV.val, CV.val, hpv]) ?_
      have e2 : Array.map a.eval caps = (List.map a.eval caps.toList).toArray := by apply Array.ext'; simp
      simp [execOp, ho, hfirst, Instr.makeFunc, e2]
    · cases hx
  | makeSlice t l c =>
    simp only [ho, Option.map_eq_some_iff, Option.bind_eq_some_iff] at hx
    obtain ⟨s, hs, z, hz, q, hq, he⟩ := hx; cases he
    exact op_makeO ho hr hf hs hz hq
  | slice t x lo hi mx =>
    simp only [ho, Option.map_eq_some_iff, Option.bind_eq_some_iff] at hx
    obtain ⟨s, hs, l, hl, u, hu, m, hm, q, hq, he⟩ := hx; cases he
    exact op_sliceO ho hr hf hs hl hu hm hq
  | fieldAddr t x f =>
    simp only [ho] at hx
    split at hx
    · rename_i b off hp
      simp only [Option.map_some, Option.bind_eq_some_iff, Option.some.injEq, Prod.mk.injEq] at hx
      obtain ⟨d, hd, rfl, rfl⟩ := hx
      obtain ⟨q, hq, he⟩ := eval_ptr hf hp
      unfold fieldOffT at hd
      split at hd
      · rename_i fs hu
        simp only [Option.bind_eq_some_iff] at hd
        obtain ⟨fd, hfd, n, hn, hd⟩ := hd
        split at hd
        · cases hd
        · rename_i hn0
          cases hd
          refine OpOk.val hr (v := .pointer (some ⟨q.1, off + fd.offset, none⟩)) (by simp [AV.val, CV.val, hq]) ?_
          simp only [execOp, ho, he, Instr.fieldAt, Sem.run_bind, run_underlying hu, Result.andThen_ok, hfd, Instr.sureAddr, Sem.run_pure, fieldPlace, run_sizeOf' hn, hn0, if_false, add_lit']
      · cases hd
    · cases hx
  | field t x f =>
    simp only [ho] at hx
    split at hx
    · rename_i cs fs hp hu
      simp only [Option.map_eq_some_iff, Option.bind_eq_some_iff] at hx
      obtain ⟨g, hg, z, hz, he⟩ := hx; cases he
      have hv := evalO_val hf hp
      simp only [AV.val, Option.map_eq_some_iff] at hv
      obtain ⟨vs, hvs, he⟩ := hv
      obtain ⟨v, h1, h2⟩ := run_part (P := P) (w := w) hz hvs
      refine OpOk.val hr h1 ?_
      simp only [execOp, ho, Instr.field, Sem.run_bind, run_underlying hu, Result.andThen_ok, hg, ← he, asAgg, Sem.run_pure, h2]
    · cases hx
  | indexAddr t x i =>
    simp only [ho] at hx
    split at hx
    · rename_i e b off n cap j hu hp hj
      split at hx
      · rename_i hlt
        simp only [Option.map_some, Option.bind_eq_some_iff, Option.some.injEq, Prod.mk.injEq] at hx hj
        obtain ⟨s, hs, rfl, rfl⟩ := hx
        obtain ⟨iv, hi, hj⟩ := hj
        obtain ⟨p, c, hpv, he, hnc, _, _⟩ := eval_sl hf hp
        unfold idxOf at hj
        split at hj
        · rename_i kk m
          split at hj
          · rename_i hm
            cases hj
            have hie := eval_lit hf hi
            refine OpOk.val hr (v := .pointer (some ⟨p.1, off + m.toNat * s, none⟩)) (by simp [AV.val, CV.val, hpv]) ?_
            have hb : 0 ≤ m ∧ m < (n : Int) := by omega
            simp [execOp, ho, he, hie, Instr.indexAt, asIntOf, run_underlying hu, hb, run_sizeOf' hs, add_lit']
          · cases hj
        · cases hj
      · cases hx
    · rename_i n e b off j hu hp hj
      split at hx
      · rename_i hlt
        simp only [Option.map_some, Option.bind_eq_some_iff, Option.some.injEq, Prod.mk.injEq] at hx hj
        obtain ⟨s, hs, rfl, rfl⟩ := hx
        obtain ⟨iv, hi, hj⟩ := hj
        obtain ⟨p, hpv, he⟩ := eval_ptr hf hp
        unfold idxOf at hj
        split at hj
        · rename_i kk m
          split at hj
          · rename_i hm
            cases hj
            have hie := eval_lit hf hi
            refine OpOk.val hr (v := .pointer (some ⟨p.1, off + m.toNat * s, none⟩)) (by simp [AV.val, CV.val, hpv]) ?_
            have hb : 0 ≤ m ∧ m < (n : Int) := by omega
            simp [execOp, ho, he, hie, Instr.indexAt, asIntOf, run_underlying hu, hb, run_sizeOf' hs, add_lit', Instr.sureAddr]
          · cases hj
        · cases hj
      · cases hx
    · cases hx
  | index t x i =>
    simp only [ho, Option.map_eq_some_iff, Option.bind_eq_some_iff] at hx
    obtain ⟨s, hs, z, hz, u, hu, v, hv, q, ⟨r, hr', hof⟩, he⟩ := hx; cases he
    refine OpOk.val hr (ofValue_val V hof) ?_
    simp only [execOp, ho, eval_known hf hs hu, eval_known hf hz hv, Sem.run_bind, pureRun_run hr' w, Result.andThen_ok, Sem.run_pure]
  | extract x i =>
    simp only [ho] at hx
    split at hx
    · rename_i l hl
      have hv := evalO_val hf hl
      simp only [AV.val, Option.map_eq_some_iff] at hv
      obtain ⟨vs, hvs, he⟩ := hv
      have tg : ∀ {l : List (Bool × List CV)} {vs : List Value}, tupVal σ V l = some vs → ∀ (i : Nat),
          (∀ cs, l[i]? = some (true, cs) → ∃ us, vals σ V cs = some us ∧ vs[i]? = some (.agg us.toArray)) ∧ (∀ y, l[i]? = some (false, [y]) → ∃ u, y.val σ V = some u ∧ vs[i]? = some u) := by
        intro l
        induction l with
        | nil => intro vs _ i; simp
        | cons z r ih =>
          intro vs hvs i
          obtain ⟨g, cs⟩ := z
          cases g with
          | true =>
            simp only [tupVal, Option.bind_eq_some_iff, Option.map_eq_some_iff] at hvs
            obtain ⟨us, hus, ws, hws, rfl⟩ := hvs
            cases i with
            | zero => exact ⟨fun cs h => by simp at h; subst h; exact ⟨us, hus, by simp⟩, fun y h => by simp at h⟩
            | succ i => simpa using ih hws i
          | false =>
            match cs, hvs with
            | [], hvs => simp [tupVal] at hvs
            | [y], hvs =>
              simp only [tupVal, Option.bind_eq_some_iff, Option.map_eq_some_iff] at hvs
              obtain ⟨u, hu, ws, hws, rfl⟩ := hvs
              cases i with
              | zero => exact ⟨fun cs h => by simp at h, fun y' h => by simp at h; subst h; exact ⟨u, hu, by simp⟩⟩
              | succ i => simpa using ih hws i
            | _ :: _ :: _, hvs => simp [tupVal] at hvs
      split at hx
      · rename_i cs hi
        simp only [Option.map_some, Option.some.injEq, Prod.mk.injEq] at hx
        obtain ⟨rfl, rfl⟩ := hx
        obtain ⟨us, h1, h2⟩ := (tg hvs i).1 _ hi
        refine OpOk.val hr (v := .agg us.toArray) (by simp [AV.val, h1]) ?_
        simp [execOp, ho, ← he, Instr.extract, h2]
      · rename_i y hi
        simp only [Option.map_some, Option.some.injEq, Prod.mk.injEq] at hx
        obtain ⟨rfl, rfl⟩ := hx
        obtain ⟨u, h1, h2⟩ := (tg hvs i).2 _ hi
        refine OpOk.val hr (v := u) h1 ?_
        simp [execOp, ho, ← he, Instr.extract, h2]
      · cases hx
    · cases hx
  | call c =>
    simp only [ho] at hx
    split at hx
    · -- len
      rename_i hcal
      split at hx
      · rename_i t rest x hts hargs
        simp only [Option.map_eq_some_iff, Option.bind_eq_some_iff] at hx
        obtain ⟨z, hz, q, hq, he⟩ := hx; cases he
        obtain ⟨callee, args, argTypes⟩ := c
        have hts' : argTypes[0]? = some t := by rw [← Array.getElem?_toList, show argTypes.toList = t :: rest from hts]; rfl
        have ha : args = #[x] := by apply Array.ext'; exact hargs
        subst ha
        cases hcal
        unfold lenO at hq
        split at hq
        · rename_i b off n cap
          split at hq
          · rename_i e hu
            cases hq
            obtain ⟨p, c, hp, hev, hnc, _, _⟩ := eval_sl hf hz
            refine OpOk.val hr (v := goInt n) rfl ?_
            simp [execOp, ho, resolve, invoke, builtin, Builtin.len_, hts', hev, run_underlying hu]
          · cases hq
        · simp only [Option.bind_eq_some_iff] at hq
          obtain ⟨v, hv, r, hr', hof⟩ := hq
          refine OpOk.val hr (ofValue_val V hof) ?_
          have := pureRun_run hr' w
          simp only [Builtin.len_, hts', execOp, ho, resolve, invoke, builtin, Sem.run_bind, Sem.run_pure, Result.andThen_ok, List.map_toArray, List.map_cons, List.map_nil, eval_known hf hz hv] at this ⊢
          simp at this ⊢
          rw [this]
          rfl
      · cases hx
    · -- append
      rename_i hcal
      split at hx
      · rename_i x y hargs
        simp only [Option.map_eq_some_iff, Option.bind_eq_some_iff] at hx
        obtain ⟨s, hs, z, hz, q, hq, he⟩ := hx; cases he
        obtain ⟨callee, args, argTypes⟩ := c
        have ha : args = #[x, y] := by apply Array.ext'; exact hargs
        subst ha
        cases hcal
        exact op_append ho hr hf hs hz hq
      · cases hx
    · -- copy
      rename_i hcal
      split at hx
      · rename_i x y hargs
        simp only [Option.map_eq_some_iff, Option.bind_eq_some_iff] at hx
        obtain ⟨s, hs, z, hz, q, hq, he⟩ := hx; cases he
        obtain ⟨callee, args, argTypes⟩ := c
        have ha : args = #[x, y] := by apply Array.ext'; exact hargs
        subst ha
        cases hcal
        exact op_copyO ho hr hf hs hz hq
      · cases hx
    · -- min
      rename_i hcal
      simp only [Option.map_eq_some_iff, Option.bind_eq_some_iff] at hx
      obtain ⟨vs, hvs, us, hus, q, ⟨r, hr', hof⟩, he⟩ := hx; cases he
      refine OpOk.val hr (ofValue_val V hof) ?_
      have hue := mapKnown hus (evalOs_val hf hvs)
      have e2 : Array.map a.eval c.args = us.toArray := by apply Array.ext'; simp [hue]
      have := pureRun_run hr' w
      simp only [execOp, ho, resolve, hcal, invoke, builtin, Sem.run_bind, Sem.run_pure, Result.andThen_ok, e2, Builtin.min_] at this ⊢
      rw [this]
      rfl
    · -- max
      rename_i hcal
      simp only [Option.map_eq_some_iff, Option.bind_eq_some_iff] at hx
      obtain ⟨vs, hvs, us, hus, q, ⟨r, hr', hof⟩, he⟩ := hx; cases he
      refine OpOk.val hr (ofValue_val V hof) ?_
      have hue := mapKnown hus (evalOs_val hf hvs)
      have e2 : Array.map a.eval c.args = us.toArray := by apply Array.ext'; simp [hue]
      have := pureRun_run hr' w
      simp only [execOp, ho, resolve, hcal, invoke, builtin, Sem.run_bind, Sem.run_pure, Result.andThen_ok, e2, Builtin.max_] at this ⊢
      rw [this]
      rfl
    · -- a function
      rename_i g hcal
      split at hx
      · rename_i f ps hg
        simp only [Option.map_eq_some_iff, Option.bind_eq_some_iff] at hx
        obtain ⟨vs, hvs, q, hq, he⟩ := hx; cases he
        exact op_call hcall ho hcal hr hf hg hvs hq
      · cases hx
    · cases hx
  | _ => simp only [ho] at hx; cases hx

end
end Go.CX
