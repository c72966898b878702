import Derived.Orders
import Derived.LoopN
import Derived.Laws.AppendOwn
import Derived.Laws.Rows
import Derived.Below
import Derived.Laws.MakeOwn
import Derived.Laws.BytesString
import Derived.Laws.CopyRow
import Derived.Lib.AppendStr
set_option linter.unusedSimpArgs false
set_option linter.unusedVariables false
namespace Go.CX
inductive T (α:Type) where
 | nil
 | node (l:T α) (v:Option α) (r:T α)
def T.get {α:Type}:Nat→T α→Nat→Option α
 | 0,_,_=>none
 | _+1,.nil,_=>none
 | f+1,.node l v r,n=>
  match n with
  | 0=>v
  | m+1=>if m%2=0 then T.get f l (m / 2) else T.get f r (m / 2)
def T.set {α:Type}:Nat→T α→Nat→Option α→T α
 | 0,t,_,_=>t
 | f+1,.nil,n,x=>
  match n with
  | 0 => .node .nil x .nil
  | m+1=>if m%2=0 then .node (T.set f .nil (m / 2) x) none .nil else .node .nil none (T.set f .nil (m / 2) x)
 | f+1,.node l v r,n,x=>
  match n with
  | 0 => .node l x r
  | m+1=>if m%2=0 then .node (T.set f l (m / 2) x) v r else .node l v (T.set f r (m / 2) x)
def deep:Nat:=24
inductive CV where
 | lit (v:Value)
 | sym (i:Nat)
 | ptr (b off:Nat)
 | sl (b off len:Nat) (cap:Option Nat)
 | fn (f:Fn) (caps:List (Nat×Nat))
 deriving Inhabited
inductive AV where
 | c (x:CV)
 | agg (l:List CV)
 | tup (l:List (Bool×List CV))
 deriving Inhabited
def AV.cells:AV→List CV
 | .c x=>[x]
 | .agg l=>l
 | .tup _=>[]
def AV.isTup:AV→Bool
 | .tup _=>true
 | _=>false
def oneCell:Value→Bool
 | .agg _ | .tuple _=>false
 | _=>true
def lits:List Value→Option (List CV)
 | []=>some []
 | v::r=>if oneCell v then (lits r).map (CV.lit v :: ·) else none
def ofValue:Value→Option AV
 | .agg cs=>(lits cs.toList).map .agg
 | .tuple _=>none
 | v=>some (.c (.lit v))
def unlits:List CV→Option (List Value)
 | []=>some []
 | .lit v::r=>(unlits r).map (v :: ·)
 | _::_=>none
def AV.known:AV→Option Value
 | .c (.lit v)=>some v
 | .agg l=>(unlits l).map fun vs => .agg vs.toArray
 | _=>none
structure Blk where
 e:TypeId
 xs:List CV
 row:Option Nat
structure Heap where
 t:T Blk
 n:Nat
def Heap.get (h:Heap) (b:Nat):Option Blk:=h.t.get deep b
def Heap.put (h:Heap) (b:Nat) (k:Option Blk):Heap:={ h with t:=h.t.set deep b k }
def Heap.new (h:Heap) (k:Blk):Heap:={ t:=h.t.set deep h.n (some k),n:=h.n+1 }
structure St where
 fr:T AV
 h:Heap
inductive Ex where
 | norm | ret | exit (id:Nat)
section
variable (P:Program)
def pureRun {α:Type}:Sem α→Option α
 | .pure a=>some a
 | .program k=>pureRun (k P)
 | _=>none
def evalO (fr:T AV):Operand→Option AV
 | .tmp t=>fr.get deep t
 | .const v=>ofValue v
 | .global _=>none
 | .func f=>some (.c (.fn (.func f) []))
def evalOs (fr:T AV):List Operand→Option (List AV)
 | []=>some []
 | x::r=>(evalO fr x).bind fun a=>(evalOs fr r).map (a :: ·)
def zeroOf (t:TypeId):Option AV:=((P.info? t).bind (·.zero)).bind ofValue
def sizeOfT (t:TypeId):Option Nat:=(P.info? t).map (·.size)
def isAggT (t:TypeId):Option Bool:=
 match P.underlying t with
 | some (.struct _) | some (.array _ _)=>some true
 | some _=>some false
 | none=>none
def partT (t:TypeId) (cs:List CV) (off:Nat):Option AV:=
 (isAggT P t).bind fun g=>
 if g then (sizeOfT P t).bind fun n=>if off+n≤cs.length then some (.agg ((cs.drop off).take n)) else none
 else (cs[off]?).map .c
def loadT (h:Heap) (t:TypeId):AV→Option AV
 | .c (.ptr b o)=>(h.get b).bind fun k=>partT P t k.xs o
 | _=>none
def splice (xs:List CV) (o:Nat) (vs:List CV):Option (List CV):=
 if o+vs.length≤xs.length then some (xs.take o++vs++xs.drop (o+vs.length)) else none
def storeT (h:Heap) (t:TypeId) (p:AV) (x:AV):Option Heap:=
 if x.isTup then none else
 match p with
 | .c (.ptr b o)=>(sizeOfT P t).bind fun n=>if x.cells.length=n then
   (h.get b).bind fun k=>(splice k.xs o x.cells).map fun ys=>h.put b (some { k with xs:=ys })
  else none
 | _=>none
def fillL (place:Nat→Option (Nat×Nat)) (cells:List CV):List (Nat×AV)→Option (List CV)
 | []=>some cells
 | (i,v)::rest=>
  if v.isTup then none else
  (place i).bind fun p=>if v.cells.length=p.2 then (splice cells p.1 v.cells).bind fun cs=>fillL place cs rest else none
def placesOf (fields:List Go.Field):Option (List (Nat×Nat)):=
 fields.mapM fun f=>(sizeOfT P f.type).map fun n=>(f.offset,n)
def rep (n:Nat) (z:List CV):List CV:=(List.replicate n z).flatten
def idxOf:AV→Option Nat
 | .c (.lit (.int _ n))=>if 0≤n then some n.toNat else none
 | _=>none
def nilEq (t:TypeId) (x y:AV):Option Bool:=
 match P.underlying t,x,y with
 | some (.pointer _),.c (.ptr _ _),.c (.lit (.pointer none))=>some false
 | some (.pointer _),.c (.lit (.pointer none)),.c (.ptr _ _)=>some false
 | some (.slice _),.c (.sl ..),.c (.lit (.slice none _ _))=>some false
 | some (.slice _),.c (.lit (.slice none _ _)),.c (.sl ..)=>some false
 | _,_,_=>none
def binO (op:BinOp) (t:TypeId) (xo yo:Operand) (x y:AV):Option AV:=
 match x.known,y.known with
 | some v,some u=>(pureRun P (do eqGuard op t xo yo v u;binOp op t v u)).bind ofValue
 | _,_=>
  match op with
  | .eql=>(nilEq P t x y).map fun b => .c (.lit (.bool b))
  | .neq=>(nilEq P t x y).map fun b => .c (.lit (.bool (!b)))
  | _=>none
def convO (h:Heap) (src dst:TypeId) (x:AV):Option (AV×Heap):=
 x.known.bind fun v=>(pureRun P (convert src dst v)).bind fun u=>(ofValue u).map fun r=>(r,h)
def optKnown (fr:T AV):Option Operand→Option (Option Value)
 | none=>some none
 | some x=>(evalO fr x).bind fun a=>a.known.map some
def sliceO (x:AV) (lo hi mx:Option Value) (t:TypeId):Option AV:=
 match x with
 | .c (.sl b o n cap)=>
  match P.underlying t,mx with
  | some (.slice e),none=>
   match sizeOfT P e,cap with
   | some size,some c=>(pureRun P (Instr.sliceBounds true n c lo hi none)).bind fun r=>
     if r.2.1≤r.2.2 then (if r.2.2=r.1 then some (.c (.sl b o (r.2.1 - r.1) (some 0))) else some (.c (.sl b (o+r.1*size) (r.2.1 - r.1) (some (r.2.2 - r.1))))) else none
   | some _,none=>(pureRun P (Instr.sliceBounds true n n lo hi none)).bind fun r=>
     if r.1=0 then some (.c (.sl b o r.2.1 none)) else none
   | _,_=>none
  | _,_=>none
 | _=>x.known.bind fun v=>(pureRun P (Instr.sliceAt t v lo hi mx)).bind ofValue
def lenO (t:TypeId) (x:AV):Option AV:=
 match x with
 | .c (.sl _ _ n _)=>match P.underlying t with
  | some (.slice _)=>some (.c (.lit (goInt n)))
  | _=>none
 | _=>x.known.bind fun v=>(pureRun P (Builtin.len_ #[t] 0 #[v])).bind ofValue
def appCells (h:Heap) (size:Nat):AV→Option (List CV×Nat)
 | .c (.sl b o n _)=>(h.get b).bind fun k=>if o+n*size≤k.xs.length then some ((k.xs.drop o).take (n*size),n) else none
 | .c (.lit (.slice none n _))=>if n=0 then some ([],0) else none
 | .c (.lit (.string s))=>if size=1 then some (s.data.toList.map fun b => .lit (.int .u8 b.toNat),s.size) else none
 | _=>none
def appKind (t xt:TypeId):AV→Bool
 | .c (.lit (.string _))=>match P.underlying xt with
  | some .string=>true
  | _=>false
 | _=>xt == t
def appMost:Nat:=1048576
def appendO (h:Heap) (ts:List TypeId) (s x:AV):Option (AV×Heap):=
 match ts with
 | [t,xt]=>
  match P.underlying t with
  | some (.slice e)=>
   if appKind P t xt x=false then none else
   (P.info? e).bind fun i=>(i.zero.bind ofValue).bind fun z=>if z.cells.length=i.size∧i.bytes≤4096 ∧ !z.isTup then
   (appCells h i.size x).bind fun (cs,m)=>
   match s with
   | .c (.lit (.slice none 0 0))=>
    if m=0 then some (.c (.lit (.slice none 0 0)),h)
    else if m≤appMost then some (.c (.sl h.n 0 m none),h.new { e:=e,xs:=cs,row:=some i.size }) else none
   | .c (.sl b o n cap)=>
    if m=0 then some (.c (.sl b o n cap),h) else
    (h.get b).bind fun k=>
    if k.e=e∧o=0∧n*i.size≤k.xs.length∧n+m≤appMost∧0<i.size∧(k.row=some i.size∧cap=none∨k.row=none∧cap=some (k.xs.length / i.size)∧k.xs.length%i.size=0∧k.xs.length≤appMost) then
     some (.c (.sl h.n 0 (n+m) none),(h.put b none).new { e:=e,xs:=k.xs.take (n*i.size)++cs,row:=some i.size })
    else none
   | _=>none
   else none
  | _=>none
 | _=>none
def makeO (h:Heap) (t:TypeId) (l c:AV):Option (AV×Heap):=
 match P.underlying t,l,c with
 | some (.slice e),.c (.lit (.int _ n)),.c (.lit (.int _ m))=>
  (P.info? e).bind fun i=>(i.zero.bind ofValue).bind fun z=>
  if z.cells.length=i.size ∧ !z.isTup∧0≤n∧n≤m∧m≤65536∧i.bytes≤4096 then
   some (.c (.sl h.n 0 n.toNat (some m.toNat)),h.new { e:=e,xs:=rep m.toNat z.cells,row:=none })
  else none
 | _,_,_=>none
def copyO (h:Heap) (ts:List TypeId) (d s:AV):Option (AV×Heap):=
 match ts,d with
 | [t,_],.c (.sl b o n _)=>
  match P.underlying t with
  | some (.slice e)=>
   match sizeOfT P e,s with
   | some 1,.c (.sl b' o' m _)=>
    (h.get b').bind fun k'=>if o'+m≤k'.xs.length then
     (h.get b).bind fun k=>(splice k.xs o (((k'.xs.drop o').take m).take (min m n))).map fun ys=>(.c (.lit (goInt (min m n))),h.put b (some { k with xs:=ys }))
    else none
   | some _,.c (.lit (.slice none 0 0))=>some (.c (.lit (goInt 0)),h)
   | _,_=>none
  | _=>none
 | _,_=>none
def capPtrs:List AV→Option (List (Nat×Nat))
 | []=>some []
 | .c (.ptr b o)::r=>(capPtrs r).map ((b,o) :: ·)
 | _::_=>none
def fieldOffT (t:TypeId) (f:Nat):Option Nat:=
 match P.underlying t with
 | some (.struct fs)=>(fs[f]?).bind fun g=>(sizeOfT P g.type).bind fun n=>if n=0 then none else some g.offset
 | _=>none
variable (call:FuncId→List AV→Heap→Option (AV×Heap))
def opX (fr:T AV) (h:Heap) (o:Oper):Option (Option AV×Heap):=
 let v (x:Option AV):Option (Option AV×Heap):=x.map fun a=>(some a,h)
 let vh (x:Option (AV×Heap)):Option (Option AV×Heap):=x.map fun a=>(some a.1,a.2)
 let ev:=evalO fr
 match o.op with
 | .move x | .assign x=>v (ev x)
 | .pick c a b=>match ev c with
  | some (.c (.lit (.bool t)))=>v (if t then ev a else ev b)
  | _=>none
 | .alloc e=>(zeroOf P e).bind fun z=>if z.isTup then none else some (some (.c (.ptr h.n 0)),h.new { e:=e,xs:=z.cells,row:=none })
 | .box e x=>(ev x).bind fun z=>if z.isTup then none else some (some (.c (.ptr h.n 0)),h.new { e:=e,xs:=z.cells,row:=none })
 | .build t parts=>(evalOs fr (parts.toList.map (·.2))).bind fun vs=>(zeroOf P t).bind fun z=>if z.isTup then none else
  match P.underlying t with
  | some (.struct fs)=>(placesOf P fs.toList).bind fun pl=>(fillL (pl[·]?) z.cells ((parts.toList.map (·.1)).zip vs)).map fun cs=>(some (.agg cs),h)
  | some (.array _ e)=>(sizeOfT P e).bind fun n=>(fillL (fun i=>some (i*n,n)) z.cells ((parts.toList.map (·.1)).zip vs)).map fun cs=>(some (.agg cs),h)
  | _=>none
 | .buildSlice t len parts=>(evalOs fr (parts.toList.map (·.2))).bind fun vs=>
  match P.underlying t with
  | some (.slice e)=>(P.info? e).bind fun i=>(i.zero.bind ofValue).bind fun z=>
   if z.cells.length=i.size ∧ !z.isTup∧len*i.size≤65536 then
    (fillL (fun j=>some (j*i.size,i.size)) (rep len z.cells) ((parts.toList.map (·.1)).zip vs)).map fun cs=>
     (some (.c (.sl h.n 0 len (some len))),h.new { e:=e,xs:=cs,row:=none })
   else none
  | _=>none
 | .load t a=>v ((ev a).bind (loadT P h t))
 | .store t a x=>(ev a).bind fun p=>(ev x).bind fun y=>(storeT P h t p y).map fun h'=>(none,h')
 | .nilCheck x=>match ev x with
  | some (.c (.ptr b o))=>v (some (.c (.ptr b o)))
  | _=>none
 | .binOp op t x y _=>(ev x).bind fun a=>(ev y).bind fun b=>v (binO P op t x y a b)
 | .unOp op _ x=>(ev x).bind fun a=>a.known.bind fun u=>v ((pureRun P (Op.unary op u)).bind ofValue)
 | .convert s d x=>(ev x).bind fun a=>vh (convO P h s d a)
 | .makeFunc f first caps=>if first.size=0 then (evalOs fr caps.toList).bind fun vs=>(capPtrs vs).map fun ps=>(some (.c (.fn f ps)),h) else none
 | .makeSlice t l c=>(ev l).bind fun a=>(ev c).bind fun b=>vh (makeO P h t a b)
 | .slice t x lo hi mx=>(ev x).bind fun a=>(optKnown fr lo).bind fun l=>(optKnown fr hi).bind fun u=>(optKnown fr mx).bind fun m=>v (sliceO P a l u m t)
 | .fieldAddr s x f=>match ev x with
  | some (.c (.ptr b o))=>(fieldOffT P s f).bind fun d=>v (some (.c (.ptr b (o+d))))
  | _=>none
 | .field t x f=>match ev x,P.underlying t with
  | some (.agg cs),some (.struct fs)=>(fs[f]?).bind fun g=>v (partT P g.type cs g.offset)
  | _,_=>none
 | .indexAddr t x i=>match P.underlying t,ev x,(ev i).bind idxOf with
  | some (.slice e),some (.c (.sl b o n _)),some j=>if j<n then (sizeOfT P e).bind fun s=>v (some (.c (.ptr b (o+j*s)))) else none
  | some (.array n e),some (.c (.ptr b o)),some j=>if j<n then (sizeOfT P e).bind fun s=>v (some (.c (.ptr b (o+j*s)))) else none
  | _,_,_=>none
 | .index t x i=>(ev x).bind fun a=>(ev i).bind fun b=>a.known.bind fun u=>b.known.bind fun w=>v ((pureRun P (Instr.index t u w)).bind ofValue)
 | .extract x i=>match ev x with
  | some (.tup l)=>match l[i]? with
   | some (true,cs)=>v (some (.agg cs))
   | some (false,[y])=>v (some (.c y))
   | _=>none
  | _=>none
 | .call c=>
  match c.callee with
  | .builtin .len=>match c.argTypes.toList,c.args.toList with
   | t::_,[x]=>(ev x).bind fun a=>v (lenO P t a)
   | _,_=>none
  | .builtin .append=>match c.args.toList with
   | [s,x]=>(ev s).bind fun a=>(ev x).bind fun b=>vh (appendO P h c.argTypes.toList a b)
   | _=>none
  | .builtin .copy=>match c.args.toList with
   | [s,x]=>(ev s).bind fun a=>(ev x).bind fun b=>vh (copyO P h c.argTypes.toList a b)
   | _=>none
  | .builtin .min=>(evalOs fr c.args.toList).bind fun vs=>(vs.mapM AV.known).bind fun us=>v ((pureRun P (Builtin.min_ c.argTypes 0 us.toArray)).bind ofValue)
  | .builtin .max=>(evalOs fr c.args.toList).bind fun vs=>(vs.mapM AV.known).bind fun us=>v ((pureRun P (Builtin.max_ c.argTypes 0 us.toArray)).bind ofValue)
  | .value g=>match ev g with
   | some (.c (.fn (.func f) ps))=>(evalOs fr c.args.toList).bind fun vs=>vh (call f (vs++ps.map fun (b,o) => .c (.ptr b o)) h)
   | _=>none
  | _=>none
 | _=>none
def guardX (ops:Array Oper) (fr:T AV) (o:Oper):Option Bool:=
 match o.guard with
 | none=>some true
 | some (j,want)=>match ((ops[j]?).bind (·.dst)).bind (fr.get deep) with
  | some (.c (.lit (.bool b)))=>some (b == want)
  | some (.tup [])=>some false
  | _=>none
def putX (fr:T AV) (dst:Option Tmp) (x:Option AV):T AV:=
 match dst with
 | some d=>fr.set deep d x
 | none=>fr
def dstOk (nt:Nat):Option Tmp→Bool
 | some d=>Nat.blt d nt
 | none=>true
def opsX (nt:Nat) (ops:Array Oper):List Oper→St→Option (St×List St)
 | [],st=>some (st,[])
 | o::r,st=>
  if dstOk nt o.dst then
   match guardX ops st.fr o with
   | some true=>match opX P call st.fr st.h o with
    | some (x,h)=>match opsX nt ops r { fr:=putX st.fr o.dst x,h:=h } with
     | some (s,l)=>some (s,st::l)
     | none=>none
    | none=>none
   | some false=>match opsX nt ops r { st with fr:=putX st.fr o.dst (some (.tup [])) } with
    | some (s,l)=>some (s,st::l)
    | none=>none
   | none=>none
  else none
def loopX (f:St→Option (Ex×St)):Nat→St→Option (Ex×St)
 | 0,_=>none
 | n+1,st=>match f st with
  | some (.norm,st')=>loopX f n st'
  | r=>r
def actCall:Callee→Bool
 | .builtin .len | .builtin .min | .builtin .max=>false
 | _=>true
def isChain (o:Oper):Bool:=
 match o.op with
 | .alloc _ | .box .. | .buildSlice .. | .store .. | .makeSlice .. => true
 | .call c=>actCall c.callee
 | _=>false
def depsOf (o:Oper):List Nat:=(o.after.toList.filter (Region.binds .any)).map (·.on)
def reaches (ops:Array Oper):Nat→Nat→Nat→Bool
 | 0,_,_=>false
 | f+1,j,i=>match ops[j]? with
  | some o=>(depsOf o).any fun d=>d == i || reaches ops f d i
  | none=>false
def sameV:Value→Value→Bool
 | .int j a,.int k b=>decide (j=k) && decide (a=b)
 | .bool a,.bool b=>a == b
 | .string a,.string b=>decide (a=b)
 | .slice none 0 0,.slice none 0 0=>true
 | .pointer none,.pointer none=>true
 | .map none,.map none=>true
 | .nilIface,.nilIface=>true
 | .nilFunc,.nilFunc=>true
 | _,_=>false
def sameC:CV→CV→Bool
 | .lit a,.lit b=>sameV a b
 | .sym a,.sym b=>a == b
 | .ptr a b,.ptr c d=>a == c && b == d
 | .sl a b c d,.sl e f g k=>a == e && b == f && c == g && decide (d=k)
 | _,_=>false
def sameL:List CV→List CV→Bool
 | [],[]=>true
 | a::r,b::s=>sameC a b && sameL r s
 | _,_=>false
def sameA:AV→AV→Bool
 | .c a,.c b=>sameC a b
 | .agg a,.agg b=>sameL a b
 | _,_=>false
def loadsSame (ops:Array Oper) (sts:List St) (o:Oper) (j:Nat):Bool:=
 match o.op with
 | .load t x=>match sts[j]? with
  | some s=>match guardX ops s.fr o with
   | some false=>true
   | _=>match evalO s.fr x with
    | some p=>match loadT P s.h t p with
     | some y=>(List.range sts.length).all fun c=>
      !(ops.toList.zipIdx.all fun q => !(isChain q.1 && reaches ops 12 j q.2) || Nat.blt q.2 c) ||
      (match sts[c]? with
       | some s'=>match loadT P s'.h t p with
        | some y'=>sameA y y'
        | none=>false
       | none=>true)
     | none=>false
    | none=>false
  | none=>false
 | _=>true
def drawOk (ops:Array Oper) (sts:List St):Bool:=
 ops.toList.zipIdx.all fun p=>
  (depsOf p.1).all (fun d=>Nat.blt d p.2) &&
  (ops.toList.zipIdx.all fun q=>
   (q.2 == p.2 || q.1.dst.isNone || decide (q.1.dst≠p.1.dst)) &&
   (match q.1.dst with
    | some d => !(p.1.looksAt ops).contains d || (depsOf p.1).contains q.2 || (depsOf q.1).contains p.2
    | none=>true) &&
   (!(isChain p.1 && isChain q.1 && Nat.blt q.2 p.2) || reaches ops 12 p.2 q.2)) &&
  loadsSame P ops sts p.1 p.2
def regionX (nt:Nat) (ops:Array Oper) (draw:Bool) (st:St):Option St:=
 match opsX P call nt ops ops.toList st with
 | some (s,l)=>if draw then (if drawOk P ops (l++[s]) then some s else none) else some s
 | none=>none
def codeX (nt rounds:Nat):Code→St→Option (Ex×St)
 | .skip,st=>some (.norm,st)
 | .label _,st=>some (.norm,st)
 | .ret,st=>some (.ret,st)
 | .exit id,st=>some (.exit id,st)
 | .seq a b,st=>match codeX nt rounds a st with
  | some (.norm,st')=>codeX nt rounds b st'
  | r=>r
 | .cond c a b,st=>match evalO st.fr c with
  | some (.c (.lit (.bool true)))=>codeX nt rounds a st
  | some (.c (.lit (.bool false)))=>codeX nt rounds b st
  | _=>none
 | .block id b,st=>match codeX nt rounds b st with
  | some (.exit i,st')=>if i=id then some (.norm,st') else some (.exit i,st')
  | r=>r
 | .loop b,st=>loopX (codeX nt rounds b) rounds st
 | .region _ ops d,st=>match regionX P call nt ops d st with
  | some st'=>some (.norm,st')
  | none=>none
 | _,_=>none
end
section
variable (P:Program)
def argsX:List AV→Nat→T AV→T AV
 | [],_,t=>t
 | x::r,n,t=>argsX r (n+1) (t.set deep n (some x))
def tupOf:List AV→Option (List (Bool×List CV))
 | []=>some []
 | .c x::r=>(tupOf r).map ((false,[x]) :: ·)
 | .agg l::r=>(tupOf r).map ((true,l) :: ·)
 | .tup _::_=>none
def resultsX (st:St):List ResultVar→Option (List AV)
 | []=>some []
 | .tmp t::r=>(st.fr.get deep t).bind fun x=>(resultsX st r).map (x :: ·)
 | .cell a t::r=>((st.fr.get deep a).bind (loadT P st.h t)).bind fun x=>(resultsX st r).map (x :: ·)
def resOf:List AV→Option AV
 | [x]=>some x
 | l=>(tupOf l).map .tup
def finish (rs:List ResultVar) (st:St):Option (AV×Heap):=
 match (resultsX P st rs).bind resOf with
 | some x=>some (x,st.h)
 | none=>none
def run (orc:FuncId→List AV→Option AV) (rounds:Nat):Nat→FuncId→List AV→Heap→Option (AV×Heap)
 | 0,_,_,_=>none
 | n+1,f,args,h=>
  match orc f args with
  | some r=>some (r,h)
  | none=>match P.funcs[f]? with
   | some fn=>match fn.body with
    | some c=>if args.length≤fn.ntmps then
      match codeX P (run orc rounds n) fn.ntmps rounds c { fr:=argsX args 0 .nil,h:=h } with
      | some (.norm,st)=>finish P fn.results.toList st
      | some (.ret,st)=>finish P fn.results.toList st
      | _=>none
     else none
    | none=>none
   | none=>none
end
end Go.CX
namespace Go.CX
open Go.RowKit (Below)
abbrev Vn:=List (Nat×Nat)
theorem T.get_nil {α:Type} (f n:Nat):T.get f (T.nil:T α) n=none:=by cases f<;>rfl
theorem T.get_set {α:Type}:∀ (f:Nat) (t:T α) (n:Nat) (x:Option α) (m:Nat) (y:α),T.get f (T.set f t n x) m=some y →
  (m=n∧x=some y)∨(m≠n∧T.get f t m=some y):=by
 intro f
 induction f with
 | zero=>intro t n x m y h;simp [T.get] at h
 | succ f ih=>
  intro t n x m y h
  cases t with
  | nil=>
   cases n with
   | zero=>
    cases m with
    | zero=>simp [T.set,T.get] at h;exact .inl ⟨rfl,h⟩
    | succ m=>simp only [T.set,T.get,T.get_nil] at h;split at h<;>cases h
   | succ n=>
    cases m with
    | zero=>simp only [T.set] at h;split at h<;>simp [T.get] at h
    | succ m=>
     simp only [T.set] at h
     split at h<;>rename_i hn
     ·simp only [T.get] at h
      split at h<;>rename_i hm
      ·rcases ih _ _ _ _ _ h with ⟨h1,h2⟩ | ⟨_,h2⟩
       ·exact .inl ⟨by omega,h2⟩
       ·rw [T.get_nil] at h2;cases h2
      ·rw [T.get_nil] at h;cases h
     ·simp only [T.get] at h
      split at h<;>rename_i hm
      ·rw [T.get_nil] at h;cases h
      ·rcases ih _ _ _ _ _ h with ⟨h1,h2⟩ | ⟨_,h2⟩
       ·exact .inl ⟨by omega,h2⟩
       ·rw [T.get_nil] at h2;cases h2
  | node l v r=>
   cases n with
   | zero=>
    cases m with
    | zero=>simp [T.set,T.get] at h;exact .inl ⟨rfl,h⟩
    | succ m=>exact .inr ⟨by omega,by simpa [T.set,T.get] using h⟩
   | succ n=>
    cases m with
    | zero=>
     refine .inr ⟨by omega,?_⟩
     simp only [T.set] at h
     split at h<;>simpa [T.get] using h
    | succ m=>
     simp only [T.set] at h
     split at h<;>rename_i hn
     ·simp only [T.get] at h ⊢
      split at h<;>rename_i hm
      ·rw [if_pos hm]
       rcases ih _ _ _ _ _ h with ⟨h1,h2⟩ | ⟨h1,h2⟩
       ·exact .inl ⟨by omega,h2⟩
       ·exact .inr ⟨by omega,h2⟩
      ·rw [if_neg hm]
       exact .inr ⟨by omega,h⟩
     ·simp only [T.get] at h ⊢
      split at h<;>rename_i hm
      ·rw [if_pos hm]
       exact .inr ⟨by omega,h⟩
      ·rw [if_neg hm]
       rcases ih _ _ _ _ _ h with ⟨h1,h2⟩ | ⟨h1,h2⟩
       ·exact .inl ⟨by omega,h2⟩
       ·exact .inr ⟨by omega,h2⟩
section
variable (σ:Nat→Value)
def ptrsVal (V:Vn):List (Nat×Nat)→Option (List Value)
 | []=>some []
 | bo::r=>(V[bo.1]?).bind fun p=>(ptrsVal V r).map (Value.pointer (some ⟨p.1,bo.2,none⟩) :: ·)
def CV.val (V:Vn):CV→Option Value
 | .lit v=>if oneCell v then some v else none
 | .sym i=>if oneCell (σ i) then some (σ i) else none
 | .ptr b o=>(V[b]?).map fun p => .pointer (some ⟨p.1,o,none⟩)
 | .sl b o n (some c)=>if n≤c then (V[b]?).map fun p => .slice (some ⟨p.1,o,none⟩) n c else none
 | .sl b o n none=>(V[b]?).bind fun p=>if n≤p.2 then some (.slice (some ⟨p.1,o,none⟩) n p.2) else none
 | .fn f cs=>(ptrsVal V cs).map fun vs => .func f #[] vs.toArray
def vals (V:Vn):List CV→Option (List Value)
 | []=>some []
 | x::r=>(x.val σ V).bind fun v=>(vals V r).map (v :: ·)
def tupVal (V:Vn):List (Bool×List CV)→Option (List Value)
 | []=>some []
 | (true,cs)::r=>(vals σ V cs).bind fun vs=>(tupVal V r).map (Value.agg vs.toArray :: ·)
 | (false,[x])::r=>(x.val σ V).bind fun v=>(tupVal V r).map (v :: ·)
 | _::_=>none
def AV.val (V:Vn):AV→Option Value
 | .c x=>x.val σ V
 | .agg l=>(vals σ V l).map fun vs => .agg vs.toArray
 | .tup l=>(tupVal σ V l).map fun vs => .tuple vs.toArray
variable {σ}
def Ext (V V':Vn):Prop:=∃ t,V'=V++t
theorem Ext.refl (V:Vn):Ext V V:=⟨[],by simp⟩
theorem Ext.trans {a b c:Vn} (h:Ext a b) (k:Ext b c):Ext a c:=by
 obtain ⟨x,rfl⟩:=h;obtain ⟨y,rfl⟩:=k;exact ⟨x++y,by simp⟩
theorem Ext.snoc (V:Vn) (x:Nat×Nat):Ext V (V++[x]):=⟨[x],rfl⟩
theorem Ext.get {V V':Vn} (h:Ext V V') {b:Nat} {p:Nat×Nat} (hp:V[b]?=some p):V'[b]?=some p:=by
 obtain ⟨t,rfl⟩:=h
 rw [List.getElem?_append_left (List.getElem?_eq_some_iff.1 hp).1];exact hp
theorem ptrsVal_ext {V V':Vn} (h:Ext V V'):∀ {l:List (Nat×Nat)} {vs:List Value},ptrsVal V l=some vs→ptrsVal V' l=some vs:=by
 intro l
 induction l with
 | nil=>intro vs hv;exact hv
 | cons x r ih=>
  intro vs hv
  simp only [ptrsVal,Option.bind_eq_some_iff,Option.map_eq_some_iff] at hv ⊢
  obtain ⟨p,hp,us,hu,rfl⟩:=hv
  exact ⟨p,h.get hp,us,ih hu,rfl⟩
theorem CV.val_ext {V V':Vn} (h:Ext V V') {x:CV} {v:Value} (hv:x.val σ V=some v):x.val σ V'=some v:=by
 cases x with
 | lit v=>exact hv
 | sym i=>exact hv
 | ptr b o=>
  simp only [CV.val,Option.map_eq_some_iff] at hv ⊢
  obtain ⟨p,hp,rfl⟩:=hv
  exact ⟨p,h.get hp,rfl⟩
 | sl b o n c=>
  cases c with
  | none=>
   simp only [CV.val,Option.bind_eq_some_iff] at hv ⊢
   obtain ⟨p,hp,hh⟩:=hv
   exact ⟨p,h.get hp,hh⟩
  | some c=>
   simp only [CV.val] at hv ⊢
   split at hv
   ·rename_i hc
    rw [if_pos hc]
    simp only [Option.map_eq_some_iff] at hv ⊢
    obtain ⟨p,hp,rfl⟩:=hv
    exact ⟨p,h.get hp,rfl⟩
   ·cases hv
 | fn f cs=>
  simp only [CV.val,Option.map_eq_some_iff] at hv ⊢
  obtain ⟨vs,hp,rfl⟩:=hv
  exact ⟨vs,ptrsVal_ext h hp,rfl⟩
theorem vals_ext {V V':Vn} (h:Ext V V'):∀ {l:List CV} {vs:List Value},vals σ V l=some vs→vals σ V' l=some vs:=by
 intro l
 induction l with
 | nil=>intro vs hv;exact hv
 | cons x r ih=>
  intro vs hv
  simp only [vals,Option.bind_eq_some_iff,Option.map_eq_some_iff] at hv ⊢
  obtain ⟨v,hp,us,hu,rfl⟩:=hv
  exact ⟨v,CV.val_ext h hp,us,ih hu,rfl⟩
theorem tupVal_ext {V V':Vn} (h:Ext V V'):∀ {l:List (Bool×List CV)} {vs:List Value},tupVal σ V l=some vs→tupVal σ V' l=some vs:=by
 intro l
 induction l with
 | nil=>intro vs hv;exact hv
 | cons x r ih=>
  intro vs hv
  obtain ⟨g,cs⟩:=x
  cases g with
  | true=>
   simp only [tupVal,Option.bind_eq_some_iff,Option.map_eq_some_iff] at hv ⊢
   obtain ⟨v,hp,us,hu,rfl⟩:=hv
   exact ⟨v,vals_ext h hp,us,ih hu,rfl⟩
  | false=>
   match cs,hv with
   | [],hv=>simp [tupVal] at hv
   | [y],hv=>
    simp only [tupVal,Option.bind_eq_some_iff,Option.map_eq_some_iff] at hv ⊢
    obtain ⟨v,hp,us,hu,rfl⟩:=hv
    exact ⟨v,CV.val_ext h hp,us,ih hu,rfl⟩
   | _::_::_,hv=>simp [tupVal] at hv
theorem AV.val_ext {V V':Vn} (h:Ext V V') {x:AV} {v:Value} (hv:x.val σ V=some v):x.val σ V'=some v:=by
 cases x with
 | c x=>exact CV.val_ext h hv
 | agg l=>
  simp only [AV.val,Option.map_eq_some_iff] at hv ⊢
  obtain ⟨vs,hp,rfl⟩:=hv
  exact ⟨vs,vals_ext h hp,rfl⟩
 | tup l=>
  simp only [AV.val,Option.map_eq_some_iff] at hv ⊢
  obtain ⟨vs,hp,rfl⟩:=hv
  exact ⟨vs,tupVal_ext h hp,rfl⟩
theorem vals_length {V:Vn}:∀ {l:List CV} {vs:List Value},vals σ V l=some vs→vs.length=l.length:=by
 intro l
 induction l with
 | nil=>intro vs hv;simp [vals] at hv;subst hv;rfl
 | cons x r ih=>
  intro vs hv
  simp only [vals,Option.bind_eq_some_iff,Option.map_eq_some_iff] at hv
  obtain ⟨v,hp,us,hu,rfl⟩:=hv
  simp [ih hu]
theorem lits_val (V:Vn):∀ {l:List Value} {cs:List CV},lits l=some cs→vals σ V cs=some l:=by
 intro l
 induction l with
 | nil=>intro cs h;simp [lits] at h;subst h;rfl
 | cons v r ih=>
  intro cs h
  simp only [lits] at h
  split at h
  ·rename_i ho
   simp only [Option.map_eq_some_iff] at h
   obtain ⟨ds,hd,rfl⟩:=h
   simp [vals,CV.val,ho,ih hd]
  ·cases h
theorem ofValue_val (V:Vn) {v:Value} {x:AV} (h:ofValue v=some x):x.val σ V=some v:=by
 cases v with
 | agg cs=>
  simp only [ofValue,Option.map_eq_some_iff] at h
  obtain ⟨ds,hd,rfl⟩:=h
  simp [AV.val,lits_val V hd]
 | tuple vs=>simp [ofValue] at h
 | _=>simp only [ofValue,Option.some.injEq] at h;subst h;rfl
def RowOk (σ:Nat→Value) (V:Vn) (k:Blk) (cap:Nat) (cur:Array Value):Prop:=
 (∃ vs,vals σ V k.xs=some vs∧cur.toList.take vs.length=vs) ∧
 match k.row with
 | none=>cur.size=k.xs.length
 | some s=>cur.size=cap*s
structure HRel (σ:Nat→Value) (B:Nat) (w0:World) (V:Vn) (h:Heap) (w:World):Prop where
 base:B≤w0.heap.size
 below:Below B w0 w
 len:V.length=h.n
 blk:∀ b k,h.get b=some k→∃ p cur,V[b]?=some p∧B≤p.1∧p.2≤maxLen∧w.heap[p.1]?=some (.cells cur k.e (0,0))∧RowOk σ V k p.2 cur
 inj:∀ b b' k k' p p',h.get b=some k→h.get b'=some k'→V[b]?=some p→V[b']?=some p'→p.1=p'.1→b=b'
structure FRel (σ:Nat→Value) (V:Vn) (nt:Nat) (fr:T AV) (a:Act):Prop where
 defers:a.defers=[]
 size:a.tmps.size=nt
 get:∀ t x,fr.get deep t=some x→∃ v,a.tmps[t]?=some v∧x.val σ V=some v
theorem FRel.ext {V V':Vn} (e:Ext V V') {nt:Nat} {fr:T AV} {a:Act} (h:FRel σ V nt fr a):FRel σ V' nt fr a:=
 ⟨h.defers,h.size,fun t x hx=>let ⟨v,h1,h2⟩:=h.get t x hx;⟨v,h1,AV.val_ext e h2⟩⟩
theorem FRel.put {V:Vn} {nt:Nat} {fr:T AV} {a:Act} (h:FRel σ V nt fr a) {d:Tmp} (hd:d<nt) (x:Option AV) (v:Value)
  (hx:∀ y,x=some y→y.val σ V=some v):FRel σ V nt (fr.set deep d x) (a.put (some d) v):=by
 refine ⟨h.defers,by simp [Act.put,h.size],fun t y hy => ?_⟩
 rcases T.get_set _ _ _ _ _ _ hy with ⟨rfl,h2⟩ | ⟨h1,h2⟩
 ·exact ⟨v,by simp [Act.put,h.size,hd],hx y h2⟩
 ·obtain ⟨u,hu,hv⟩:=h.get t y h2
  exact ⟨u,by simpa [Act.put,Array.getElem?_setIfInBounds_ne (Ne.symm h1)] using hu,hv⟩
theorem evalO_val {V:Vn} {nt:Nat} {fr:T AV} {a:Act} (h:FRel σ V nt fr a) {x:Operand} {y:AV} (hy:evalO fr x=some y):y.val σ V=some (a.eval x):=by
 cases x with
 | tmp t=>
  obtain ⟨v,h1,h2⟩:=h.get t y hy
  rw [h2];simp [Act.eval,h1]
 | const v=>exact ofValue_val V hy
 | global g=>simp [evalO] at hy
 | func f=>simp only [evalO,Option.some.injEq] at hy;subst hy;rfl
theorem pureRun_run {P:Program} {α:Type} {s:Sem α} {x:α} (h:pureRun P s=some x) (w:World):s.run P w = .ok x w:=by
 induction s with
 | pure a=>simp [pureRun] at h;subst h;rfl
 | program k ih=>simp only [pureRun] at h;exact ih P h
 | _=>simp [pureRun] at h
theorem HRel.alloc {B:Nat} {w0:World} {V:Vn} {h:Heap} {w:World} (hr:HRel σ B w0 V h w) (e:TypeId) (xs:List CV) (vs:List Value) (hv:vals σ V xs=some vs) :
  HRel σ B w0 (V++[(w.heap.size,0)]) (h.new { e:=e,xs:=xs,row:=none }) (w.alloc (.cells vs.toArray e)):=by
 have hB:B≤w.heap.size:=Nat.le_trans hr.base hr.below.size
 have ex:Ext V (V++[(w.heap.size,0)]):=Ext.snoc _ _
 refine ⟨hr.base,hr.below.alloc hB _,by simp [hr.len,Heap.new],fun b k hb => ?_,fun b b' k k' p p' hb hb' hp hp' he => ?_⟩
 ·rcases T.get_set _ _ _ _ _ _ hb with ⟨rfl,hk⟩ | ⟨hne,hk⟩
  ·cases hk
   refine ⟨(w.heap.size,0),vs.toArray,by rw [← hr.len];simp,hB,Nat.zero_le _,heap_alloc_new w _,⟨vs,vals_ext ex hv,by simp⟩,by simpa using vals_length hv⟩
  ·obtain ⟨p,cur,h1,h2,h3,h4,⟨us,h5,h6⟩,h7⟩:=hr.blk b k hk
   refine ⟨p,cur,ex.get h1,h2,h3,?_,⟨us,vals_ext ex h5,h6⟩,h7⟩
   rw [heap_alloc_old w _ _ (Array.getElem?_eq_some_iff.1 h4).1];exact h4
 ·have key:∀ b k p,(h.new { e:=e,xs:=xs,row:=none }).get b=some k→(V++[(w.heap.size,0)])[b]?=some p→(b=h.n∧p.1=w.heap.size)∨(h.get b=some k∧V[b]?=some p∧p.1<w.heap.size):=by
   intro b k p hb hp
   rcases T.get_set _ _ _ _ _ _ hb with ⟨rfl,hk⟩ | ⟨hne,hk⟩
   ·refine .inl ⟨rfl,?_⟩
    rw [← hr.len] at hp
    simp at hp
    rw [← hp]
   ·obtain ⟨q,cur,h1,h2,h3,h4,_⟩:=hr.blk b k hk
    have:=ex.get h1
    rw [hp] at this
    cases this
    exact .inr ⟨hk,h1,(Array.getElem?_eq_some_iff.1 h4).1⟩
  rcases key b k p hb hp with ⟨rfl,h1⟩ | ⟨h1,h2,h3⟩<;>rcases key b' k' p' hb' hp' with ⟨rfl,h1'⟩ | ⟨h1',h2',h3'⟩
  ·rfl
  ·omega
  ·omega
  ·exact hr.inj b b' k k' p p' h1 h1' h2 h2' he
theorem HRel.setRow {B:Nat} {w0:World} {V:Vn} {h:Heap} {w:World} (hr:HRel σ B w0 V h w) {b:Nat} {k:Blk} (hb:h.get b=some k) {p:Nat×Nat} (hp:V[b]?=some p)
  (ys:List CV) (us:List Value) (cur':Array Value) (hy:vals σ V ys=some us) (ht:cur'.toList.take us.length=us)
  (hs:match k.row with | none=>cur'.size=ys.length | some s=>cur'.size=p.2*s) :
  HRel σ B w0 V (h.put b (some { k with xs:=ys })) (w.setRow p.1 cur'):=by
 obtain ⟨q,cur,h1,h2,h3,h4,h5⟩:=hr.blk b k hb
 rw [hp] at h1;cases h1
 have hB:Below B w (w.setRow p.1 cur'):=⟨rfl,rfl,rfl,by simp [World.setRow],fun i hi=>setRow_other w p.1 i cur' (by omega)⟩
 refine ⟨hr.base,hr.below.trans hB,hr.len,fun b' k' hb' => ?_,fun b1 b2 k1 k2 p1 p2 hb1 hb2 hp1 hp2 he => ?_⟩
 ·rcases T.get_set _ _ _ _ _ _ hb' with ⟨rfl,hk⟩ | ⟨hne,hk⟩
  ·cases hk
   exact ⟨p,cur',hp,h2,h3,setRow_heap w p.1 cur cur' _ _ h4,⟨us,hy,ht⟩,hs⟩
  ·obtain ⟨q,cur2,g1,g2,g3,g4,g5⟩:=hr.blk b' k' hk
   refine ⟨q,cur2,g1,g2,g3,?_,g5⟩
   rw [setRow_other w p.1 q.1 cur' (fun e=>hne (hr.inj b' b k' k q p hk hb g1 hp e))]
   exact g4
 ·have old:∀ b k',(h.put b (some { k with xs:=ys })).get b=some k'→True:=fun _ _ _=>trivial
  have key:∀ b1 k1,(h.put b (some { k with xs:=ys })).get b1=some k1→∃ k2,h.get b1=some k2:=by
   intro b1 k1 h1
   rcases T.get_set _ _ _ _ _ _ h1 with ⟨rfl,hk⟩ | ⟨hne,hk⟩
   ·exact ⟨k,hb⟩
   ·exact ⟨k1,hk⟩
  obtain ⟨m1,hm1⟩:=key b1 k1 hb1
  obtain ⟨m2,hm2⟩:=key b2 k2 hb2
  exact hr.inj b1 b2 m1 m2 p1 p2 hm1 hm2 hp1 hp2 he
theorem HRel.drew {B:Nat} {w0:World} {V:Vn} {h:Heap} {w:World} (hr:HRel σ B w0 V h w):HRel σ B w0 V h { w with drawn:=w.drawn+1 }:=
 ⟨hr.base,hr.below.drew,hr.len,hr.blk,hr.inj⟩
end
end Go.CX
namespace Go.CX
open Go.RowKit (Below)
section
variable {σ:Nat→Value} {P:Program} {B:Nat} {w0:World} {V:Vn} {nt:Nat} {h h':Heap} {w:World} {fr:T AV} {a:Act} {o:Oper}
variable {K:Act→World→Prop} {Q:Exit→Act→World→Prop}
theorem wp_val {v:Value} {w':World} (hr:(execOp a.eval o).run P w = .ok (.value v) w') (hk:K (a.put o.dst v) w'):o.wp P a w K Q:=by
 unfold Oper.wp;rw [hr];exact hk
def OpOk (σ:Nat→Value) (P:Program) (B:Nat) (w0:World) (V:Vn) (h':Heap) (a:Act) (w:World) (o:Oper) (x:Option AV):Prop:=
 ∀ (K:Act→World→Prop) (Q:Exit→Act→World→Prop),
  (∀ V' v w',Ext V V'→HRel σ B w0 V' h' w'→(∀ y,x=some y→y.val σ V'=some v)→K (a.put o.dst v) w')→o.wp P a w K Q
theorem OpOk.val {x:AV} {v:Value} (hr:HRel σ B w0 V h w) (hv:x.val σ V=some v) (hrun:(execOp a.eval o).run P w = .ok (.value v) w):OpOk σ P B w0 V h a w o (some x):=
 fun _ _ hk=>wp_val hrun (hk V v w (Ext.refl V) hr fun y hy=>by cases hy;exact hv)
theorem eval_ptr {x:Operand} {b off:Nat} (hf:FRel σ V nt fr a) (hx:evalO fr x=some (.c (.ptr b off))):∃ p,V[b]?=some p∧a.eval x = .pointer (some ⟨p.1,off,none⟩):=by
 have:=evalO_val hf hx
 simp only [AV.val,CV.val,Option.map_eq_some_iff] at this
 obtain ⟨p,hp,e⟩:=this
 exact ⟨p,hp,e.symm⟩
theorem HRel.cells (hr:HRel σ B w0 V h w) {b:Nat} {k:Blk} (hb:h.get b=some k) {p:Nat×Nat} (hp:V[b]?=some p) :
  ∃ vs,vals σ V k.xs=some vs∧∀ j v,vs[j]?=some v→w.cell? ⟨p.1,j,none⟩=some v:=by
 obtain ⟨q,cur,h1,h2,h3,h4,⟨vs,h5,h6⟩,h7⟩:=hr.blk b k hb
 rw [hp] at h1;cases h1
 refine ⟨vs,h5,fun j v hj => ?_⟩
 simp only [World.cell?,h4]
 rw [← h6] at hj
 rw [List.getElem?_take] at hj
 split at hj
 ·simpa using hj
 ·cases hj
theorem run_isAgg {t:TypeId} {g:Bool} (hg:isAggT P t=some g) (w:World):(isAgg t).run P w = .ok g w:=by
 unfold isAggT at hg
 unfold isAgg
 split at hg
 all_goals first
  | (cases hg;rename_i hd;rw [Sem.run_bind,run_underlying hd w];simp;done)
  | (cases hg;rename_i d hd h1;rw [Sem.run_bind,run_underlying h1 w];cases d<;>simp_all;done)
  | cases hg
theorem run_sizeOf' {t:TypeId} {n:Nat} (hn:sizeOfT P t=some n) (w:World):(sizeOf t).run P w = .ok n w:=by
 unfold sizeOfT at hn
 simp only [Option.map_eq_some_iff] at hn
 obtain ⟨i,hi,rfl⟩:=hn
 simp [sizeOf,typeInfo,hi]
theorem fold_splice_from:∀ (us:List Value) (j off:Nat) (vs:List Value),off+j+us.length≤vs.length →
  ((us.zipIdx j).foldl (fun (cs:Array Value) (x:Value×Nat)=>cs.setIfInBounds (off+x.2) x.1) vs.toArray)=(vs.take (off+j)++us++vs.drop (off+j+us.length)).toArray:=by
 intro us
 induction us with
 | nil=>intro j off vs h;simp
 | cons u r ih=>
  intro j off vs h
  simp only [List.zipIdx_cons,List.foldl_cons,List.setIfInBounds_toArray]
  rw [ih (j+1) off (vs.set (off+j) u) (by simp at h ⊢;omega)]
  congr 1
  have e:=list_seg_step vs (off+j) u r (by simp at h ⊢;omega)
  simpa [Nat.add_assoc] using e
theorem fold_splice (us:List Value) (off:Nat) (vs:List Value) (h:off+us.length≤vs.length) :
  ((us.toArray.zipIdx).foldl (fun (cs:Array Value) (x:Value×Nat)=>cs.setIfInBounds (off+x.2) x.1) vs.toArray)=(vs.take off++us++vs.drop (off+us.length)).toArray:=by
 have:=fold_splice_from us 0 off vs (by simpa using h)
 simpa using this
end
end Go.CX
namespace Go.CX
open Go.RowKit (Below)
section
variable {σ:Nat→Value} {P:Program} {B:Nat} {w0:World} {V:Vn} {nt:Nat} {h h':Heap} {w:World} {fr:T AV} {a:Act} {o:Oper} {t:TypeId} {x y:Operand} {parts:Array (Nat×Operand)} {len:Nat}
theorem HRel.le (hr:HRel σ B w0 V h w):B≤w.heap.size:=Nat.le_trans hr.base hr.below.size
theorem range_rep (n s:Nat) (z:Array Value) (hz:z.size=s):((Array.range (n*s)).map (z[· % z.size]!)).toList=(List.replicate n z.toList).flatten:=by
 subst hz
 simp only [Array.toList_map,Array.toList_range]
 induction n with
 | zero=>simp
 | succ n ih=>
  rw [List.replicate_succ,List.flatten_cons,← ih,Nat.succ_mul,Nat.add_comm (n*z.size) z.size,List.range_add,List.map_append,List.map_map]
  congr 1
  ·apply List.ext_getElem
   ·simp
   ·intro i h1 h2
    simp at h1
    simp [Nat.mod_eq_of_lt h1,h1]
  ·apply List.map_congr_left
   intro j _
   simp
end
end Go.CX
namespace Go.CX
open Go.RowKit (Below)
open Go.Lib
section
variable {σ:Nat→Value} {P:Program} {B:Nat} {w0:World} {V:Vn} {nt:Nat} {h h':Heap} {w:World} {fr:T AV} {a:Act} {o:Oper} {t:TypeId} {x y:Operand}
end
end Go.CX
namespace Go.CX
open Go.RowKit (Below)
open Go.Lib
section
variable {σ:Nat→Value} {P:Program} {B:Nat} {w0:World} {V:Vn} {nt:Nat} {h h':Heap} {w:World} {fr:T AV} {a:Act} {o:Oper} {t:TypeId} {x y:Operand} {ts:Array TypeId}
inductive Src (σ:Nat→Value) (P:Program) (w:World) (t xt:TypeId) (V:Vn) (size:Nat) (cs:List CV) (m:Nat):Value→Prop where
 | mem (ad:Addr) (c:Nat) (news:List Value) (ht:xt=t) (hv:vals σ V cs=some news) (hl:news.length=m*size) (hc:∀ j u,news[j]?=some u→w.cell? (ad.add j)=some u):Src σ P w t xt V size cs m (.slice (some ad) m c)
 | none (ht:xt=t) (hm:m=0) (c:Nat):Src σ P w t xt V size cs m (.slice none 0 c)
 | str (s:ByteArray) (hu:P.underlying xt=some .string) (hm:m=s.size) (h1:size=1) (hv:vals σ V cs=some (strCells s)):Src σ P w t xt V size cs m (.string s)
end
end Go.CX
namespace Go.CX
open Go.RowKit (Below)
section
variable {σ:Nat→Value} {P:Program} {B:Nat} {w0:World} {V:Vn} {nt:Nat} {h h':Heap} {w:World} {fr:T AV} {a:Act} {o:Oper} {t:TypeId} {x y:Operand}
end
end Go.CX
namespace Go.CX
open Go.RowKit (Below)
section
variable {σ:Nat→Value} {P:Program} {B:Nat} {w0:World} {V:Vn} {nt:Nat} {h h':Heap} {w:World} {fr:T AV} {a:Act} {o:Oper} {t:TypeId} {x y:Operand} {ts:Array TypeId}
end
end Go.CX

