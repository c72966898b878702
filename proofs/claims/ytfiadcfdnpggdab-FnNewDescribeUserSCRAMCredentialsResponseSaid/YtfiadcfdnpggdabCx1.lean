/- The definitions of a concrete executor of the model's code over an abstract heap: values of cells, frames as trees, operations, regions, loops, calls. -/
import Derived.Orders
import Derived.LoopN
namespace Go.CX

/-- A frame's or a heap's map from numbers: a binary tree. -/
inductive T (α : Type) where
  | nil
  | node (l : T α) (v : Option α) (r : T α)

def T.get {α : Type} : Nat → T α → Nat → Option α
  | 0, _, _ => none
  | _ + 1, .nil, _ => none
  | f + 1, .node l v r, n =>
    match n with
    | 0 => v
    | m + 1 => if m % 2 = 0 then T.get f l (m / 2) else T.get f r (m / 2)

def T.set {α : Type} : Nat → T α → Nat → Option α → T α
  | 0, t, _, _ => t
  | f + 1, .nil, n, x =>
    match n with
    | 0 => .node .nil x .nil
    | m + 1 => if m % 2 = 0 then .node (T.set f .nil (m / 2) x) none .nil else .node .nil none (T.set f .nil (m / 2) x)
  | f + 1, .node l v r, n, x =>
    match n with
    | 0 => .node l x r
    | m + 1 => if m % 2 = 0 then .node (T.set f l (m / 2) x) v r else .node l v (T.set f r (m / 2) x)

/-- How deep a tree goes. -/
def deep : Nat := 24

/-- What one cell holds. -/
inductive CV where
  | lit (v : Value)
  | sym (i : Nat)
  | ptr (b off : Nat)
  | sl (b off len : Nat) (cap : Option Nat)
  | fn (f : Fn) (caps : List (Nat × Nat))
  deriving Inhabited

/-- What a temporary holds. -/
inductive AV where
  | c (x : CV)
  | agg (l : List CV)
  | tup (l : List (Bool × List CV))
  deriving Inhabited

def AV.cells : AV → List CV
  | .c x => [x]
  | .agg l => l
  | .tup _ => []

def AV.isTup : AV → Bool
  | .tup _ => true
  | _ => false

def oneCell : Value → Bool
  | .agg _ | .tuple _ => false
  | _ => true

def lits : List Value → Option (List CV)
  | [] => some []
  | v :: r => if oneCell v then (lits r).map (CV.lit v :: ·) else none

/-- A value of the model without addresses, as a temporary's. -/
def ofValue : Value → Option AV
  | .agg cs => (lits cs.toList).map .agg
  | .tuple _ => none
  | v => some (.c (.lit v))

def unlits : List CV → Option (List Value)
  | [] => some []
  | .lit v :: r => (unlits r).map (v :: ·)
  | _ :: _ => none

/-- The value, where it is known whole. -/
def AV.known : AV → Option Value
  | .c (.lit v) => some v
  | .agg l => (unlits l).map fun vs => .agg vs.toArray
  | _ => none

structure Blk where
  e : TypeId
  xs : List CV
  /-- a slice's row whose capacity is not known: the size of its elements -/
  row : Option Nat

structure Heap where
  t : T Blk
  n : Nat

def Heap.get (h : Heap) (b : Nat) : Option Blk := h.t.get deep b
def Heap.put (h : Heap) (b : Nat) (k : Option Blk) : Heap := { h with t := h.t.set deep b k }
/-- A new block; its number is the old 'n'. -/
def Heap.new (h : Heap) (k : Blk) : Heap := { t := h.t.set deep h.n (some k), n := h.n + 1 }

structure St where
  fr : T AV
  h : Heap

def undefV : Option AV := none

inductive Ex where
  | norm | ret | exit (id : Nat)

section
variable (P : Program)

def pureRun {α : Type} : Sem α → Option α
  | .pure a => some a
  | .program k => pureRun (k P)
  | _ => none

def evalO (fr : T AV) : Operand → Option AV
  | .tmp t => fr.get deep t
  | .const v => ofValue v
  | .global _ => none
  | .func f => some (.c (.fn (.func f) []))

def evalOs (fr : T AV) : List Operand → Option (List AV)
  | [] => some []
  | x :: r => (evalO fr x).bind fun a => (evalOs fr r).map (a :: ·)

/-- The cells of a zero value of a type. -/
def zeroOf (t : TypeId) : Option AV := ((P.info? t).bind (·.zero)).bind ofValue
def sizeOfT (t : TypeId) : Option Nat := (P.info? t).map (·.size)

def isAggT (t : TypeId) : Option Bool :=
  match P.underlying t with
  | some (.struct _) | some (.array _ _) => some true
  | some _ => some false
  | none => none

/-- A part of a list of cells, as a value of a type. -/
def partT (t : TypeId) (cs : List CV) (off : Nat) : Option AV :=
  (isAggT P t).bind fun g =>
  if g then (sizeOfT P t).bind fun n => if off + n ≤ cs.length then some (.agg ((cs.drop off).take n)) else none
  else (cs[off]?).map .c

def loadT (h : Heap) (t : TypeId) : AV → Option AV
  | .c (.ptr b o) => (h.get b).bind fun k => partT P t k.xs o
  | _ => none

/-- A list with a few of its cells from a place on replaced. -/
def splice (xs : List CV) (o : Nat) (vs : List CV) : Option (List CV) :=
  if o + vs.length ≤ xs.length then some (xs.take o ++ vs ++ xs.drop (o + vs.length)) else none

def storeT (h : Heap) (t : TypeId) (p : AV) (x : AV) : Option Heap :=
  if x.isTup then none else
  match p with
  | .c (.ptr b o) => (sizeOfT P t).bind fun n => if x.cells.length = n then
      (h.get b).bind fun k => (splice k.xs o x.cells).map fun ys => h.put b (some { k with xs := ys })
    else none
  | _ => none

def fillL (place : Nat → Option (Nat × Nat)) (cells : List CV) : List (Nat × AV) → Option (List CV)
  | [] => some cells
  | (i, v) :: rest =>
    if v.isTup then none else
    (place i).bind fun p => if v.cells.length = p.2 then (splice cells p.1 v.cells).bind fun cs => fillL place cs rest else none

def placesOf (fields : List Go.Field) : Option (List (Nat × Nat)) :=
  fields.mapM fun f => (sizeOfT P f.type).map fun n => (f.offset, n)

def rep (n : Nat) (z : List CV) : List CV := (List.replicate n z).flatten

def idxOf : AV → Option Nat
  | .c (.lit (.int _ n)) => if 0 ≤ n then some n.toNat else none
  | _ => none

/-- 'x == nil' and its like between an address and nil. -/
def nilEq (t : TypeId) (x y : AV) : Option Bool :=
  match P.underlying t, x, y with
  | some (.pointer _), .c (.ptr _ _), .c (.lit (.pointer none)) => some false
  | some (.pointer _), .c (.lit (.pointer none)), .c (.ptr _ _) => some false
  | some (.slice _), .c (.sl ..), .c (.lit (.slice none _ _)) => some false
  | some (.slice _), .c (.lit (.slice none _ _)), .c (.sl ..) => some false
  | _, _, _ => none

def binO (op : BinOp) (t : TypeId) (xo yo : Operand) (x y : AV) : Option AV :=
  match x.known, y.known with
  | some v, some u => (pureRun P (do eqGuard op t xo yo v u; binOp op t v u)).bind ofValue
  | _, _ =>
    match op with
    | .eql => (nilEq P t x y).map fun b => .c (.lit (.bool b))
    | .neq => (nilEq P t x y).map fun b => .c (.lit (.bool (!b)))
    | _ => none

def convO (h : Heap) (src dst : TypeId) (x : AV) : Option (AV × Heap) :=
  x.known.bind fun v => (pureRun P (convert src dst v)).bind fun u => (ofValue u).map fun r => (r, h)

def optKnown (fr : T AV) : Option Operand → Option (Option Value)
  | none => some none
  | some x => (evalO fr x).bind fun a => a.known.map some

/-- A slice of a slice. -/
def sliceO (x : AV) (lo hi mx : Option Value) (t : TypeId) : Option AV :=
  match x with
  | .c (.sl b o n cap) =>
    match P.underlying t, mx with
    | some (.slice e), none =>
      match sizeOfT P e, cap with
      | some size, some c => (pureRun P (Instr.sliceBounds true n c lo hi none)).bind fun r =>
          if r.2.1 ≤ r.2.2 then (if r.2.2 = r.1 then some (.c (.sl b o (r.2.1 - r.1) (some 0))) else some (.c (.sl b (o + r.1 * size) (r.2.1 - r.1) (some (r.2.2 - r.1))))) else none
      | some _, none => (pureRun P (Instr.sliceBounds true n n lo hi none)).bind fun r =>
          if r.1 = 0 then some (.c (.sl b o r.2.1 none)) else none
      | _, _ => none
    | _, _ => none
  | _ => x.known.bind fun v => (pureRun P (Instr.sliceAt t v lo hi mx)).bind ofValue

def lenO (t : TypeId) (x : AV) : Option AV :=
  match x with
  | .c (.sl _ _ n _) => match P.underlying t with
    | some (.slice _) => some (.c (.lit (goInt n)))
    | _ => none
  | _ => x.known.bind fun v => (pureRun P (Builtin.len_ #[t] 0 #[v])).bind ofValue

/-- What is appended: the cells, and how many elements they are. -/
def appCells (h : Heap) (size : Nat) : AV → Option (List CV × Nat)
  | .c (.sl b o n _) => (h.get b).bind fun k => if o + n * size ≤ k.xs.length then some ((k.xs.drop o).take (n * size), n) else none
  | .c (.lit (.slice none n _)) => if n = 0 then some ([], 0) else none
  | .c (.lit (.string s)) => if size = 1 then some (s.data.toList.map fun b => .lit (.int .u8 b.toNat), s.size) else none
  | _ => none

/-- May this be appended: a slice of the same type, or a string. -/
def appKind (t xt : TypeId) : AV → Bool
  | .c (.lit (.string _)) => match P.underlying xt with
    | some .string => true
    | _ => false
  | _ => xt == t

/-- The most elements that an append of the executor's may come to. -/
def appMost : Nat := 1048576

/-- append: the old row is not spoken of again where something was appended. -/
def appendO (h : Heap) (ts : List TypeId) (s x : AV) : Option (AV × Heap) :=
  match ts with
  | [t, xt] =>
    match P.underlying t with
    | some (.slice e) =>
      if appKind P t xt x = false then none else
      (P.info? e).bind fun i => (i.zero.bind ofValue).bind fun z => if z.cells.length = i.size ∧ i.bytes ≤ 4096 ∧ !z.isTup then
      (appCells h i.size x).bind fun (cs, m) =>
      match s with
      | .c (.lit (.slice none 0 0)) =>
        if m = 0 then some (.c (.lit (.slice none 0 0)), h)
        else if m ≤ appMost then some (.c (.sl h.n 0 m none), h.new { e := e, xs := cs, row := some i.size }) else none
      | .c (.sl b o n cap) =>
        if m = 0 then some (.c (.sl b o n cap), h) else
        (h.get b).bind fun k =>
        if k.e = e ∧ o = 0 ∧ n * i.size ≤ k.xs.length ∧ n + m ≤ appMost ∧ 0 < i.size ∧ (k.row = some i.size ∧ cap = none ∨ k.row = none ∧ cap = some (k.xs.length / i.size) ∧ k.xs.length % i.size = 0 ∧ k.xs.length ≤ appMost) then
          some (.c (.sl h.n 0 (n + m) none), (h.put b none).new { e := e, xs := k.xs.take (n * i.size) ++ cs, row := some i.size })
        else none
      | _ => none
      else none
    | _ => none
  | _ => none

/-- make([]T, n, c) of known numbers. -/
def makeO (h : Heap) (t : TypeId) (l c : AV) : Option (AV × Heap) :=
  match P.underlying t, l, c with
  | some (.slice e), .c (.lit (.int _ n)), .c (.lit (.int _ m)) =>
    (P.info? e).bind fun i => (i.zero.bind ofValue).bind fun z =>
    if z.cells.length = i.size ∧ !z.isTup ∧ 0 ≤ n ∧ n ≤ m ∧ m ≤ 65536 ∧ i.bytes ≤ 4096 then
      some (.c (.sl h.n 0 n.toNat (some m.toNat)), h.new { e := e, xs := rep m.toNat z.cells, row := none })
    else none
  | _, _, _ => none

/-- copy(dst, src) between rows. -/
def copyO (h : Heap) (ts : List TypeId) (d s : AV) : Option (AV × Heap) :=
  match ts, d with
  | [t, _], .c (.sl b o n _) =>
    match P.underlying t with
    | some (.slice e) =>
      match sizeOfT P e, s with
      | some 1, .c (.sl b' o' m _) =>
        (h.get b').bind fun k' => if o' + m ≤ k'.xs.length then
          (h.get b).bind fun k => (splice k.xs o (((k'.xs.drop o').take m).take (min m n))).map fun ys => (.c (.lit (goInt (min m n))), h.put b (some { k with xs := ys }))
        else none
      | some _, .c (.lit (.slice none 0 0)) => some (.c (.lit (goInt 0)), h)
      | _, _ => none
    | _ => none
  | _, _ => none

def capPtrs : List AV → Option (List (Nat × Nat))
  | [] => some []
  | .c (.ptr b o) :: r => (capPtrs r).map ((b, o) :: ·)
  | _ :: _ => none

def fieldOffT (t : TypeId) (f : Nat) : Option Nat :=
  match P.underlying t with
  | some (.struct fs) => (fs[f]?).bind fun g => (sizeOfT P g.type).bind fun n => if n = 0 then none else some g.offset
  | _ => none

variable (call : FuncId → List AV → Heap → Option (AV × Heap))

/-- One operation: the value for its slot, and the heap. -/
def opX (fr : T AV) (h : Heap) (o : Oper) : Option (Option AV × Heap) :=
  let v (x : Option AV) : Option (Option AV × Heap) := x.map fun a => (some a, h)
  let vh (x : Option (AV × Heap)) : Option (Option AV × Heap) := x.map fun a => (some a.1, a.2)
  let ev := evalO fr
  match o.op with
  | .move x | .assign x => v (ev x)
  | .pick c a b => match ev c with
    | some (.c (.lit (.bool t))) => v (if t then ev a else ev b)
    | _ => none
  | .alloc e => (zeroOf P e).bind fun z => if z.isTup then none else some (some (.c (.ptr h.n 0)), h.new { e := e, xs := z.cells, row := none })
  | .box e x => (ev x).bind fun z => if z.isTup then none else some (some (.c (.ptr h.n 0)), h.new { e := e, xs := z.cells, row := none })
  | .build t parts => (evalOs fr (parts.toList.map (·.2))).bind fun vs => (zeroOf P t).bind fun z => if z.isTup then none else
    match P.underlying t with
    | some (.struct fs) => (placesOf P fs.toList).bind fun pl => (fillL (pl[·]?) z.cells ((parts.toList.map (·.1)).zip vs)).map fun cs => (some (.agg cs), h)
    | some (.array _ e) => (sizeOfT P e).bind fun n => (fillL (fun i => some (i * n, n)) z.cells ((parts.toList.map (·.1)).zip vs)).map fun cs => (some (.agg cs), h)
    | _ => none
  | .buildSlice t len parts => (evalOs fr (parts.toList.map (·.2))).bind fun vs =>
    match P.underlying t with
    | some (.slice e) => (P.info? e).bind fun i => (i.zero.bind ofValue).bind fun z =>
      if z.cells.length = i.size ∧ !z.isTup ∧ len * i.size ≤ 65536 then
        (fillL (fun j => some (j * i.size, i.size)) (rep len z.cells) ((parts.toList.map (·.1)).zip vs)).map fun cs =>
          (some (.c (.sl h.n 0 len (some len))), h.new { e := e, xs := cs, row := none })
      else none
    | _ => none
  | .load t a => v ((ev a).bind (loadT P h t))
  | .store t a x => (ev a).bind fun p => (ev x).bind fun y => (storeT P h t p y).map fun h' => (none, h')
  | .nilCheck x => match ev x with
    | some (.c (.ptr b o)) => v (some (.c (.ptr b o)))
    | _ => none
  | .binOp op t x y _ => (ev x).bind fun a => (ev y).bind fun b => v (binO P op t x y a b)
  | .unOp op _ x => (ev x).bind fun a => a.known.bind fun u => v ((pureRun P (Op.unary op u)).bind ofValue)
  | .convert s d x => (ev x).bind fun a => vh (convO P h s d a)
  | .makeFunc f first caps => if first.size = 0 then (evalOs fr caps.toList).bind fun vs => (capPtrs vs).map fun ps => (some (.c (.fn f ps)), h) else none
  | .makeSlice t l c => (ev l).bind fun a => (ev c).bind fun b => vh (makeO P h t a b)
  | .slice t x lo hi mx => (ev x).bind fun a => (optKnown fr lo).bind fun l => (optKnown fr hi).bind fun u => (optKnown fr mx).bind fun m => v (sliceO P a l u m t)
  | .fieldAddr s x f => match ev x with
    | some (.c (.ptr b o)) => (fieldOffT P s f).bind fun d => v (some (.c (.ptr b (o + d))))
    | _ => none
  | .field t x f => match ev x, P.underlying t with
    | some (.agg cs), some (.struct fs) => (fs[f]?).bind fun g => v (partT P g.type cs g.offset)
    | _, _ => none
  | .indexAddr t x i => match P.underlying t, ev x, (ev i).bind idxOf with
    | some (.slice e), some (.c (.sl b o n _)), some j => if j < n then (sizeOfT P e).bind fun s => v (some (.c (.ptr b (o + j * s)))) else none
    | some (.array n e), some (.c (.ptr b o)), some j => if j < n then (sizeOfT P e).bind fun s => v (some (.c (.ptr b (o + j * s)))) else none
    | _, _, _ => none
  | .index t x i => (ev x).bind fun a => (ev i).bind fun b => a.known.bind fun u => b.known.bind fun w => v ((pureRun P (Instr.index t u w)).bind ofValue)
  | .extract x i => match ev x with
    | some (.tup l) => match l[i]? with
      | some (true, cs) => v (some (.agg cs))
      | some (false, [y]) => v (some (.c y))
      | _ => none
    | _ => none
  | .call c =>
    match c.callee with
    | .builtin .len => match c.argTypes.toList, c.args.toList with
      | t :: _, [x] => (ev x).bind fun a => v (lenO P t a)
      | _, _ => none
    | .builtin .append => match c.args.toList with
      | [s, x] => (ev s).bind fun a => (ev x).bind fun b => vh (appendO P h c.argTypes.toList a b)
      | _ => none
    | .builtin .copy => match c.args.toList with
      | [s, x] => (ev s).bind fun a => (ev x).bind fun b => vh (copyO P h c.argTypes.toList a b)
      | _ => none
    | .builtin .min => (evalOs fr c.args.toList).bind fun vs => (vs.mapM AV.known).bind fun us => v ((pureRun P (Builtin.min_ c.argTypes 0 us.toArray)).bind ofValue)
    | .builtin .max => (evalOs fr c.args.toList).bind fun vs => (vs.mapM AV.known).bind fun us => v ((pureRun P (Builtin.max_ c.argTypes 0 us.toArray)).bind ofValue)
    | .value g => match ev g with
      | some (.c (.fn (.func f) ps)) => (evalOs fr c.args.toList).bind fun vs => vh (call f (vs ++ ps.map fun (b, o) => .c (.ptr b o)) h)
      | _ => none
    | _ => none
  | _ => none

def guardX (ops : Array Oper) (fr : T AV) (o : Oper) : Option Bool :=
  match o.guard with
  | none => some true
  | some (j, want) => match ((ops[j]?).bind (·.dst)).bind (fr.get deep) with
    | some (.c (.lit (.bool b))) => some (b == want)
    | some (.tup []) => some false
    | _ => none

def putX (fr : T AV) (dst : Option Tmp) (x : Option AV) : T AV :=
  match dst with
  | some d => fr.set deep d x
  | none => fr

def dstOk (nt : Nat) : Option Tmp → Bool
  | some d => Nat.blt d nt
  | none => true

/-- Operations one after the other; the states ahead of each, too. -/
def opsX (nt : Nat) (ops : Array Oper) : List Oper → St → Option (St × List St)
  | [], st => some (st, [])
  | o :: r, st =>
    if dstOk nt o.dst then
      match guardX ops st.fr o with
      | some true => match opX P call st.fr st.h o with
        | some (x, h) => match opsX nt ops r { fr := putX st.fr o.dst x, h := h } with
          | some (s, l) => some (s, st :: l)
          | none => none
        | none => none
      | some false => match opsX nt ops r { st with fr := putX st.fr o.dst (some (.tup [])) } with
        | some (s, l) => some (s, st :: l)
        | none => none
      | none => none
    else none

def loopX (f : St → Option (Ex × St)) : Nat → St → Option (Ex × St)
  | 0, _ => none
  | n + 1, st => match f st with
    | some (.norm, st') => loopX f n st'
    | r => r

def actCall : Callee → Bool
  | .builtin .len | .builtin .min | .builtin .max => false
  | _ => true

/-- May an operation change the heap, or hang on what others do with it? -/
def isChain (o : Oper) : Bool :=
  match o.op with
  | .alloc _ | .box .. | .buildSlice .. | .store .. | .makeSlice .. => true
  | .call c => actCall c.callee
  | _ => false

def isLoad (o : Oper) : Bool :=
  match o.op with
  | .load .. => true
  | _ => false

def depsOf (o : Oper) : List Nat := (o.after.toList.filter (Region.binds .any)).map (·.on)

/-- Must operation i have been done ahead of operation j? -/
def reaches (ops : Array Oper) : Nat → Nat → Nat → Bool
  | 0, _, _ => false
  | f + 1, j, i => match ops[j]? with
    | some o => (depsOf o).any fun d => d == i || reaches ops f d i
    | none => false

def sameV : Value → Value → Bool
  | .int j a, .int k b => decide (j = k) && decide (a = b)
  | .bool a, .bool b => a == b
  | .string a, .string b => decide (a = b)
  | .slice none 0 0, .slice none 0 0 => true
  | .pointer none, .pointer none => true
  | .map none, .map none => true
  | .nilIface, .nilIface => true
  | .nilFunc, .nilFunc => true
  | _, _ => false

def sameC : CV → CV → Bool
  | .lit a, .lit b => sameV a b
  | .sym a, .sym b => a == b
  | .ptr a b, .ptr c d => a == c && b == d
  | .sl a b c d, .sl e f g k => a == e && b == f && c == g && decide (d = k)
  | _, _ => false

def sameL : List CV → List CV → Bool
  | [], [] => true
  | a :: r, b :: s => sameC a b && sameL r s
  | _, _ => false

def sameA : AV → AV → Bool
  | .c a, .c b => sameC a b
  | .agg a, .agg b => sameL a b
  | _, _ => false

def loadsSame (ops : Array Oper) (sts : List St) (o : Oper) (j : Nat) : Bool :=
  match o.op with
  | .load t x => match sts[j]? with
    | some s => match guardX ops s.fr o with
      | some false => true
      | _ => match evalO s.fr x with
        | some p => match loadT P s.h t p with
          | some y => (List.range sts.length).all fun c =>
            !(ops.toList.zipIdx.all fun q => !(isChain q.1 && reaches ops 12 j q.2) || Nat.blt q.2 c) ||
            (match sts[c]? with
              | some s' => match loadT P s'.h t p with
                | some y' => sameA y y'
                | none => false
              | none => true)
          | none => false
        | none => false
    | none => false
  | _ => true

/-- In whatever order a region's operations are done, they do the same. -/
def drawOk (ops : Array Oper) (sts : List St) : Bool :=
  ops.toList.zipIdx.all fun p =>
    (depsOf p.1).all (fun d => Nat.blt d p.2) &&
    (ops.toList.zipIdx.all fun q =>
      (q.2 == p.2 || q.1.dst.isNone || decide (q.1.dst ≠ p.1.dst)) &&
      (match q.1.dst with
        | some d => !(p.1.looksAt ops).contains d || (depsOf p.1).contains q.2 || (depsOf q.1).contains p.2
        | none => true) &&
      (!(isChain p.1 && isChain q.1 && Nat.blt q.2 p.2) || reaches ops 12 p.2 q.2)) &&
    loadsSame P ops sts p.1 p.2

def regionX (nt : Nat) (ops : Array Oper) (draw : Bool) (st : St) : Option St :=
  match opsX P call nt ops ops.toList st with
  | some (s, l) => if draw then (if drawOk P ops (l ++ [s]) then some s else none) else some s
  | none => none

def codeX (nt rounds : Nat) : Code → St → Option (Ex × St)
  | .skip, st => some (.norm, st)
  | .label _, st => some (.norm, st)
  | .ret, st => some (.ret, st)
  | .exit id, st => some (.exit id, st)
  | .seq a b, st => match codeX nt rounds a st with
    | some (.norm, st') => codeX nt rounds b st'
    | r => r
  | .cond c a b, st => match evalO st.fr c with
    | some (.c (.lit (.bool true))) => codeX nt rounds a st
    | some (.c (.lit (.bool false))) => codeX nt rounds b st
    | _ => none
  | .block id b, st => match codeX nt rounds b st with
    | some (.exit i, st') => if i = id then some (.norm, st') else some (.exit i, st')
    | r => r
  | .loop b, st => loopX (codeX nt rounds b) rounds st
  | .region _ ops d, st => match regionX P call nt ops d st with
    | some st' => some (.norm, st')
    | none => none
  | _, _ => none

end

section
variable (P : Program)

def argsX : List AV → Nat → T AV → T AV
  | [], _, t => t
  | x :: r, n, t => argsX r (n + 1) (t.set deep n (some x))

def tupOf : List AV → Option (List (Bool × List CV))
  | [] => some []
  | .c x :: r => (tupOf r).map ((false, [x]) :: ·)
  | .agg l :: r => (tupOf r).map ((true, l) :: ·)
  | .tup _ :: _ => none

def resultsX (st : St) : List ResultVar → Option (List AV)
  | [] => some []
  | .tmp t :: r => (st.fr.get deep t).bind fun x => (resultsX st r).map (x :: ·)
  | .cell a t :: r => ((st.fr.get deep a).bind (loadT P st.h t)).bind fun x => (resultsX st r).map (x :: ·)

def resOf : List AV → Option AV
  | [x] => some x
  | l => (tupOf l).map .tup

def finish (rs : List ResultVar) (st : St) : Option (AV × Heap) :=
  match (resultsX P st rs).bind resOf with
  | some x => some (x, st.h)
  | none => none

/-- A call, so and so deep. 'orc' answers for some functions. -/
def run (orc : FuncId → List AV → Option AV) (rounds : Nat) : Nat → FuncId → List AV → Heap → Option (AV × Heap)
  | 0, _, _, _ => none
  | n + 1, f, args, h =>
    match orc f args with
    | some r => some (r, h)
    | none => match P.funcs[f]? with
      | some fn => match fn.body with
        | some c => if args.length ≤ fn.ntmps then
            match codeX P (run orc rounds n) fn.ntmps rounds c { fr := argsX args 0 .nil, h := h } with
            | some (.norm, st) => finish P fn.results.toList st
            | some (.ret, st) => finish P fn.results.toList st
            | _ => none
          else none
        | none => none
      | none => none

end
end Go.CX
