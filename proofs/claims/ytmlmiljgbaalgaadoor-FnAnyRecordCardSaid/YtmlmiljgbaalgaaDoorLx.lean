/- Programs over symbols, taken out of code: the temporaries are gone, constants are reckoned, loops bear what they carry. -/
import Derived.Test.YtmlmiljgbaalgaaDoorCy
import Derived.OrdersHeld
import Derived.LoopN
import Derived.ScopeJumps
set_option linter.unusedSimpArgs false
set_option linter.unusedVariables false
namespace Go.Lx
open Go.CX (T deep pureRun fieldOffT)

/-- A value: known; a symbol; a pointer's symbol and an offset from it. -/
inductive SV where
  | k (v : Value)
  | s (n : Nat)
  | q (n off : Nat)
  deriving Inhabited

def SV.val (η : Nat → Value) : SV → Value
  | .k v => v
  | .s n => η n
  | .q n off => match η n with
    | .pointer (some a) => .pointer (some (a.add off))
    | v => v

/-- All of its symbols are below a number. -/
def SV.lt (c : Nat) : SV → Prop
  | .k _ => True
  | .s n => n < c
  | .q n _ => n < c

def SV.same : SV → SV → Bool
  | .s a, .s b => a == b
  | .q a b, .q c d => a == c && b == d
  | .k a, .k b => CX.sameV a b
  | _, _ => false

theorem SV.same_eq {a b : SV} (h : SV.same a b = true) : a = b := by
  unfold SV.same at h
  split at h
  · simp_all
  · simp_all
  · rw [CX.sameV_eq h]
  · cases h

inductive Prog where
  | nil
  | op (o : Oper) (args : List SV) (n : Nat) (k : Prog)
  | chk (n : Nat) (k : Prog)
  | set (n : Nat) (x : SV) (k : Prog)
  | ite (c : SV) (a b k : Prog)
  | loop (body k : Prog)
  | keep (o : Oper) (args : List SV) (n : Nat) (k : Prog)
  | look (o : Oper) (args : List SV) (n : Nat) (k : Prog)
  | draw (k : Prog)
  | flip (n : Nat) (k : Prog)
  | exit
  | ret (xs : List SV)
  deriving Inhabited

def Prog.app : Prog → Prog → Prog
  | .nil, r => r
  | .op o args n k, r => .op o args n (k.app r)
  | .chk n k, r => .chk n (k.app r)
  | .set n x k, r => .set n x (k.app r)
  | .ite c a b k, r => .ite c a b (k.app r)
  | .loop b k, r => .loop b (k.app r)
  | .keep o args n k, r => .keep o args n (k.app r)
  | .look o args n k, r => .look o args n (k.app r)
  | .draw k, r => .draw (k.app r)
  | .flip n k, r => .flip n (k.app r)
  | .exit, _ => .exit
  | .ret xs, _ => .ret xs

/-! What a program means. -/
inductive Out where
  | nrm | ext | ret (vs : List Value)

def upd (η : Nat → Value) (n : Nat) (v : Value) : Nat → Value := fun m => if m = n then v else η m

def uponK (P : Program) (K : Value → World → Prop) : Result Next → Prop
  | .ok (.value v) w' => K v w'
  | .ok .skip w' => K undef w'
  | .ok (.enter f args) w' => Calls P f args w' fun
      | .returned v, w'' => K v w''
      | _, _ => False
  | _ => False

def opWp (P : Program) (o : Oper) (args : List Value) (w : World) (K : Value → World → Prop) : Prop :=
  ∀ ρ : Operand → Value, o.op.operands.toList.map ρ = args → uponK P K ((execOp ρ o).run P w)

def roundsP (B : (Out → (Nat → Value) → World → Prop) → (Nat → Value) → World → Prop) (Q : Out → (Nat → Value) → World → Prop) : Nat → (Nat → Value) → World → Prop
  | 0, _, _ => False
  | n + 1, η, w => B (fun o η w => match o with
    | .nrm => roundsP B Q n η w
    | o => Q o η w) η w

def Prog.wp (P : Program) : Prog → (Out → (Nat → Value) → World → Prop) → (Nat → Value) → World → Prop
  | .nil, Q, η, w => Q .nrm η w
  | .op o args n k, Q, η, w => opWp P o (args.map (SV.val η)) w fun v w' => k.wp P Q (upd η n v) w'
  | .chk n k, Q, η, w => (∃ a, η n = .pointer (some a)) ∧ k.wp P Q η w
  | .set n x k, Q, η, w => k.wp P Q (upd η n (x.val η)) w
  | .ite c a b k, Q, η, w => ∃ t, c.val η = .bool t ∧
      (t = true → a.wp P (fun o η w => match o with
        | .nrm => k.wp P Q η w
        | o => Q o η w) η w) ∧
      (t = false → b.wp P (fun o η w => match o with
        | .nrm => k.wp P Q η w
        | o => Q o η w) η w)
  | .loop b k, Q, η, w => ∃ n, roundsP (b.wp P) (fun o η w => match o with
      | .ext => k.wp P Q η w
      | o => Q o η w) n η w
  | .keep o args n k, Q, η, w => (∀ ρ : Operand → Value, o.op.operands.toList.map ρ = args.map (SV.val η) → (execOp ρ o).run P w = .ok (.value (η n)) w) ∧ k.wp P Q η w
  | .look o args n k, Q, η, w => ∀ ρ : Operand → Value, o.op.operands.toList.map ρ = args.map (SV.val η) → ∃ v, (execOp ρ o).run P w = .ok (.value v) w ∧ k.wp P Q (upd η n v) w
  | .draw k, Q, η, w => k.wp P Q η { w with drawn := w.drawn + 1 }
  | .flip n k, Q, η, w => ∀ b : Bool, k.wp P Q (upd η n (.bool b)) w
  | .exit, Q, η, w => Q .ext η w
  | .ret xs, Q, η, w => Q (.ret (xs.map (SV.val η))) η w

/-! The builder. -/
structure BS where
  fr : T SV
  cnt : Nat
  known : List Nat


structure R where
  p : Prog
  nx : Option BS
  ex : List (Nat × BS)
  cnt : Nat

def evalSV (fr : T SV) : Operand → Option SV
  | .tmp t => fr.get deep t
  | .const v => some (.k v)
  | .func f => some (.k (.func (.func f) #[] #[]))
  | .global g => some (.k (.pointer (some ⟨g, 0, none⟩)))

def evalSVs (fr : T SV) : List Operand → Option (List SV)
  | [] => some []
  | x :: r => (evalSV fr x).bind fun a => (evalSVs fr r).map (a :: ·)

def putS (st : BS) (dst : Option Tmp) (x : Option SV) : BS :=
  match dst with
  | some d => { st with fr := st.fr.set deep d x }
  | none => st

section
variable (P : Program)

/-- The constant that an operation on constants gives. -/
def fold (o : Oper) (args : List SV) : Option Value :=
  match o.op, args with
  | .binOp op t x y _, [.k u, .k v] => pureRun P (do eqGuard op t x y u v; binOp op t u v)
  | .unOp op _ _, [.k u] => pureRun P (Op.unary op u)
  | .convert s d _, [.k u] => pureRun P (convert s d u)
  | _, _ => none

def givesPtr (o : Oper) : Bool :=
  match o.op with
  | .alloc _ | .box .. | .indexAddr .. => true
  | _ => false

/-- An operation that stays: its node, its symbol. -/
def stay (o : Oper) (args : List SV) (st : BS) : Prog × BS :=
  if givesPtr o then (.op o args st.cnt (.chk st.cnt .nil), { putS st o.dst (some (.q st.cnt 0)) with cnt := st.cnt + 1, known := st.cnt :: st.known })
  else (.op o args st.cnt .nil, { putS st o.dst (some (.s st.cnt)) with cnt := st.cnt + 1 })

def opB (o : Oper) (st : BS) : Option (Prog × BS) :=
  match o.op with
  | .move x | .assign x => (evalSV st.fr x).map fun a => (.nil, putS st o.dst (some a))
  | .pick c a b => match evalSV st.fr c with
    | some (.k (.bool true)) => (evalSV st.fr a).map fun v => (.nil, putS st o.dst (some v))
    | some (.k (.bool false)) => (evalSV st.fr b).map fun v => (.nil, putS st o.dst (some v))
    | some (.s m) => (evalSV st.fr a).bind fun va => (evalSV st.fr b).map fun vb =>
        (.ite (.s m) (.set st.cnt va .nil) (.set st.cnt vb .nil) .nil, { putS st o.dst (some (.s st.cnt)) with cnt := st.cnt + 1 })
    | _ => none
  | .fieldAddr t x f => match evalSV st.fr x with
    | some (.q n off) => if st.known.contains n then (fieldOffT P t f).map fun d => (.nil, putS st o.dst (some (.q n (off + d)))) else none
    | _ => none
  | .nilCheck x => match evalSV st.fr x with
    | some (.q n off) => if st.known.contains n then some (.nil, putS st o.dst (some (.q n off))) else none
    | some (.s n) => if st.known.contains n then some (.nil, putS st o.dst (some (.q n 0)))
      else some (.chk n .nil, { putS st o.dst (some (.q n 0)) with known := n :: st.known })
    | _ => none
  | op => (evalSVs st.fr op.operands.toList).bind fun args =>
    match fold P o args with
    | some v => some (.nil, putS st o.dst (some (.k v)))
    | none => some (stay o args st)

def guardB (ops : Array Oper) (fr : T SV) (o : Oper) : Option Bool :=
  match o.guard with
  | none => some true
  | some (j, want) => match ((ops[j]?).bind (·.dst)).bind (fr.get deep) with
    | some (.k (.bool b)) => some (b == want)
    | some (.k (.tuple _)) => some false
    | _ => none

/-- A guard that is known when the program runs. -/
def guardS (ops : Array Oper) (fr : T SV) (o : Oper) : Option (SV × Bool) :=
  match o.guard with
  | some (j, want) => match ((ops[j]?).bind (·.dst)).bind (fr.get deep) with
    | some (.s n) => some (.s n, want)
    | _ => none
  | none => none

/-- An operation behind such a guard: its two arms, what follows. -/
def guarded (o : Oper) (st : BS) (p : Prog × BS) : Option (Prog × Prog × BS) :=
  match o.dst with
  | some d => match p.2.fr.get deep d with
    | some y => some (p.1.app (.set p.2.cnt y .nil), .set p.2.cnt (.k undef) .nil, { fr := st.fr.set deep d (some (.s p.2.cnt)), cnt := p.2.cnt + 1, known := st.known })
    | none => none
  | none => some (p.1, .nil, { st with cnt := p.2.cnt })

def opsB (nt : Nat) (ops : Array Oper) : List Oper → BS → Option (Prog × BS)
  | [], st => some (.nil, st)
  | o :: r, st =>
    if CX.dstOk nt o.dst then
      match guardB ops st.fr o with
      | some true => (opB P o st).bind fun p => (opsB nt ops r p.2).map fun q => (p.1.app q.1, q.2)
      | some false => opsB nt ops r (putS st o.dst (some (.k undef)))
      | none => (guardS ops st.fr o).bind fun g => (opB P o st).bind fun p => (guarded o st p).bind fun z =>
          (opsB nt ops r z.2.2).map fun q => (.ite g.1 (if g.2 then z.1 else z.2.1) (if g.2 then z.2.1 else z.1) q.1, q.2)
    else none

/-- The slots that code writes. -/
def dsts : Code → List Tmp
  | .region _ ops _ => ops.toList.filterMap (·.dst)
  | .seq a b => dsts a ++ dsts b
  | .cond _ a b => dsts a ++ dsts b
  | .block _ b => dsts b
  | .loop b => dsts b
  | .scope b => dsts b
  | _ => []

/-- Two ends of branches made one: what is set at the end of each, the frame. -/
def merge (a b : T SV) : List Tmp → T SV → Nat → Prog × Prog × T SV × Nat
  | [], fr, c => (.nil, .nil, fr, c)
  | t :: r, fr, c =>
    match a.get deep t, b.get deep t with
    | some x, some y =>
      if SV.same x y then merge a b r (fr.set deep t (some x)) c
      else
        let q := merge a b r (fr.set deep t (some (.s c))) (c + 1)
        (.set c x q.1, .set c y q.2.1, q.2.2)
    | _, _ => merge a b r (fr.set deep t none) c

/-! Regions taken apart at guards; regions that draw their order. -/
def forkB (fr : T SV) (l : List Tmp) (c : Nat) (known : List Nat) (x : SV) (pa pb : Prog × BS) : Prog × BS :=
  let q := merge pa.2.fr pb.2.fr l fr c
  (.ite x (pa.1.app q.1) (pb.1.app q.2.1) .nil, { fr := q.2.2.1, cnt := q.2.2.2, known := known })

/-- The guard's slot, what it holds, what is wanted of it. -/
def guardF (ops : Array Oper) (fr : T SV) (o : Oper) : Option (Tmp × Nat × Bool) :=
  match o.guard with
  | some (j, want) => match (ops[j]?).bind (·.dst) with
    | some d => match fr.get deep d with
      | some (.s n) => some (d, n, want)
      | _ => none
    | none => none
  | none => none

def BS.knows (st : BS) (d : Tmp) (b : Bool) : BS := { st with fr := st.fr.set deep d (some (.k (.bool b))) }

/-- One operation where its guard is known. -/
def oneB (o : Oper) (st : BS) (wanted : Bool) : Option (Prog × BS) :=
  if wanted then opB P o st else some (.nil, putS st o.dst (some (.k undef)))

def dstsO (ops : Array Oper) : List Tmp := ops.toList.filterMap (·.dst)

def opsT (nt : Nat) (ops : Array Oper) : List Oper → BS → Option (Prog × BS)
  | [], st => some (.nil, st)
  | o :: r, st =>
    if CX.dstOk nt o.dst then
      match guardB ops st.fr o with
      | some b => (oneB P o st b).bind fun p => (opsT nt ops r p.2).map fun q => (p.1.app q.1, q.2)
      | none => (guardF ops st.fr o).bind fun g =>
          (oneB P o (st.knows g.1 true) (true == g.2.2)).bind fun p1 => (opsT nt ops r p1.2).bind fun q1 =>
          (oneB P o { (st.knows g.1 false) with cnt := q1.2.cnt } (false == g.2.2)).bind fun p2 => (opsT nt ops r p2.2).map fun q2 =>
          forkB st.fr (dstsO ops) q2.2.cnt st.known (.s g.2.1) (p1.1.app q1.1, q1.2) (p2.1.app q2.1, q2.2)
    else none

/-- It only looks: 1: it gives the same in whatever world; 2: it may read memory. -/
def lookB (o : Oper) : Nat :=
  match o.op with
  | .move _ | .assign _ | .pick .. | .fieldAddr .. | .nilCheck _ => 1
  | .load .. | .extract .. | .indexAddr .. | .unOp .. | .binOp .. | .convert .. | .slice .. => 2
  | .call c => match c.callee with
    | .builtin .len => 2
    | _ => 0
  | _ => 0

abbrev Look := Oper × List SV × Nat

def keepAll : List Look → Prog → Prog
  | [], k => k
  | (o, args, n) :: r, k => .keep o args n (keepAll r k)

/-- One operation that only looks. -/
def lookX (o : Oper) (st : BS) : Option (Prog × BS × List Look) :=
  if lookB o = 1 then (opB P o st).map fun p => (p.1, p.2, [])
  else (evalSVs st.fr o.op.operands.toList).bind fun args =>
    match fold P o args with
    | some v => some (.nil, putS st o.dst (some (.k v)), [])
    | none =>
      if givesPtr o then some (.look o args st.cnt (.chk st.cnt .nil), { putS st o.dst (some (.q st.cnt 0)) with cnt := st.cnt + 1, known := st.cnt :: st.known }, [(o, args, st.cnt)])
      else some (.look o args st.cnt .nil, { putS st o.dst (some (.s st.cnt)) with cnt := st.cnt + 1 }, [(o, args, st.cnt)])

def stepD (isLook : Bool) (o : Oper) (st : BS) (wanted : Bool) : Option (Prog × BS × List Look) :=
  if wanted && isLook then lookX P o st else (oneB P o st wanted).map fun p => (p.1, p.2, [])

/-- Must operation i have been done ahead of operation j? -/
def depsB (o : Oper) : List Nat := (o.after.toList.filter (Region.binds .any)).map (·.on)
def reachB (ops : Array Oper) : Nat → Nat → Nat → Bool
  | 0, _, _ => false
  | f + 1, j, i => match ops[j]? with
    | some o => (depsB o).any fun d => d == i || reachB ops f d i
    | none => false
def isStore (ops : Array Oper) (i : Nat) : Bool := match ops[i]? with
  | some o => (match o.op with
    | .store .. => true
    | _ => false)
  | none => false
/-- A store that all waits for: what was looked at ahead of it need not stay. -/
def barB (ops : Array Oper) (i : Nat) (T : List Nat) : Bool := isStore ops i && T.all fun k => reachB ops 12 i k

/-- It makes something new (octets of a text). -/
def makesB (o : Oper) : Bool :=
  match o.op with
  | .convert s d _ => match P.underlying s, P.underlying d with
    | some .string, some (.slice _) => true
    | _, _ => false
  | _ => false

def pickD (ops : Array Oper) (listed : Array Bool) (rs : List Nat) : Option (Nat × Bool) :=
  match rs.find? (fun i => ((ops[i]?).map (fun o => lookB o != 0 && !makesB P o)).getD false && Region.free .any ops listed i) with
  | some i => some (i, true)
  | none => match rs with
    | [i] => some (i, false)
    | _ => none

/-- One that does something, its guard known. -/
def effD (nt : Nat) (ops : Array Oper) (i : Nat) (st : BS) : Option (Prog × BS) :=
  (ops[i]?).bind fun o => if CX.dstOk nt o.dst then (guardB ops st.fr o).bind fun b => oneB P o st b else none

/-- What is an address on either way is one behind both. -/
def knowL (a : T SV) : List Tmp → BS → List Nat × BS
  | [], st => ([], st)
  | t :: r, st =>
    match st.fr.get deep t, a.get deep t with
    | some (.s c), some (.q _ _) =>
      let q := knowL a r { st with fr := st.fr.set deep t (some (.q c 0)), known := c :: st.known }
      (c :: q.1, q.2)
    | _, _ => knowL a r st

def chkL : List Nat → Prog → Prog
  | [], k => k
  | c :: r, k => .chk c (chkL r k)

/-- What is to stay from here on. -/
def nextT (ops : Array Oper) (x : Nat × Bool) (T : List Nat) (new : List Look) : List Nat := if x.2 then (if new.isEmpty then T else x.1 :: T) else if barB ops x.1 T then [] else T
def nextL (ops : Array Oper) (x : Nat × Bool) (T : List Nat) (ls new : List Look) : List Look := if x.2 then new ++ ls else if barB ops x.1 T then [] else new ++ ls

def opsD (nt : Nat) (ops : Array Oper) : Nat → Array Bool → List Nat → List Look → BS → Option (Prog × BS)
  | 0, listed, _, _, st => if Region.ready .any ops listed = [] then some (.nil, st) else none
  | f + 1, listed, T, ls, st =>
    if Region.ready .any ops listed = [] then some (.nil, st) else
    match pickD P ops listed (Region.ready .any ops listed) with
    | none => (match Region.ready .any ops listed with
      | [i, j] => (effD P nt ops i { st with cnt := st.cnt + 1 }).bind fun p1 => (opsD nt ops f (listed.setIfInBounds i true) T ls p1.2).bind fun q1 =>
          (effD P nt ops j { st with cnt := q1.2.cnt }).bind fun p2 => (opsD nt ops f (listed.setIfInBounds j true) T ls p2.2).map fun q2 =>
          let z := forkB st.fr (dstsO ops) q2.2.cnt st.known (.s st.cnt) (p1.1.app (keepAll ls q1.1), q1.2) (p2.1.app (keepAll ls q2.1), q2.2)
          let y := knowL q1.2.fr (dstsO ops) z.2
          (.flip st.cnt (z.1.app (chkL y.1 .nil)), y.2)
      | _ => none)
    | some x => (ops[x.1]?).bind fun o =>
    if CX.dstOk nt o.dst then
      match guardB ops st.fr o with
      | some b => (stepD P x.2 o st b).bind fun p => (opsD nt ops f (listed.setIfInBounds x.1 true) (nextT ops x T p.2.2) (nextL ops x T ls p.2.2) p.2.1).map fun q => (p.1.app (if x.2 || barB ops x.1 T then q.1 else keepAll ls q.1), q.2)
      | none => (guardF ops st.fr o).bind fun g =>
          (stepD P x.2 o (st.knows g.1 true) (true == g.2.2)).bind fun p1 => (opsD nt ops f (listed.setIfInBounds x.1 true) (nextT ops x T p1.2.2) (nextL ops x T ls p1.2.2) p1.2.1).bind fun q1 =>
          (stepD P x.2 o { (st.knows g.1 false) with cnt := q1.2.cnt } (false == g.2.2)).bind fun p2 => (opsD nt ops f (listed.setIfInBounds x.1 true) (nextT ops x T p2.2.2) (nextL ops x T ls p2.2.2) p2.2.1).map fun q2 =>
          forkB st.fr (dstsO ops) q2.2.cnt st.known (.s g.2.1) (p1.1.app (if x.2 || barB ops x.1 T then q1.1 else keepAll ls q1.1), q1.2) (p2.1.app (if x.2 || barB ops x.1 T then q2.1 else keepAll ls q2.1), q2.2)
    else none

/-- A guard that is itself the result of a guarded operation: it may hold no truth. -/
def nestG (ops : Array Oper) : Bool := ops.any fun o => match o.guard with
  | some (j, _) => match ops[j]? with
    | some o' => o'.guard.isSome
    | none => false
  | none => false

def regionB (nt : Nat) (ops : Array Oper) (d : Bool) (st : BS) : Option (Prog × BS) :=
  if d then
    if P.follows .mixedOrders && Region.noSelect ops then (opsD P nt ops ops.size (Array.replicate ops.size false) [] [] st).map fun p => (.draw p.1, p.2) else none
  else match (if nestG ops then none else opsB P nt ops ops.toList st) with
    | some p => some p
    | none => opsT P nt ops ops.toList st

/-- A loop's head: what its slots hold goes into symbols of their own. -/
def head : List Tmp → BS → Prog × BS × List (Tmp × Nat)
  | [], st => (.nil, st, [])
  | t :: r, st =>
    match st.fr.get deep t with
    | some x =>
      let q := head r { st with fr := st.fr.set deep t (some (.s st.cnt)), cnt := st.cnt + 1 }
      (.set st.cnt x q.1, q.2.1, (t, st.cnt) :: q.2.2)
    | none => head r st

/-- A round's end: first into new symbols, .. -/
def tail1 (fr : T SV) : List (Tmp × Nat) → Nat → Option (Prog × List (Nat × Nat) × Nat)
  | [], c => some (.nil, [], c)
  | (t, n) :: r, c =>
    match fr.get deep t with
    | some x => if SV.same x (.s n) then tail1 fr r c
      else (tail1 fr r (c + 1)).map fun q => (.set c x q.1, (n, c) :: q.2.1, q.2.2)
    | none => none

/-- .. then into the loop's own. -/
def tail2 : List (Nat × Nat) → Prog
  | [] => .nil
  | (n, c) :: r => .set n (.s c) (tail2 r)

def isLoop : Code → Option Code
  | .loop b => some b
  | _ => none

variable (rs : List Tmp)

def bld (nt : Nat) : Code → BS → Option R
  | .skip, st => some ⟨.nil, some st, [], st.cnt⟩
  | .region _ ops d, st => (regionB P nt ops d st).map fun p => ⟨p.1, some p.2, [], p.2.cnt⟩
  | .seq a b, st => (bld nt a st).bind fun ra =>
    match ra.nx with
    | none => some ra
    | some s => (bld nt b { s with cnt := ra.cnt }).map fun rb => ⟨ra.p.app rb.p, rb.nx, ra.ex ++ rb.ex, rb.cnt⟩
  | .cond c a b, st => match evalSV st.fr c with
    | some (.k (.bool true)) => bld nt a st
    | some (.k (.bool false)) => bld nt b st
    | some x => (bld nt a st).bind fun ra => (bld nt b { st with cnt := ra.cnt }).map fun rb =>
      match ra.nx, rb.nx with
      | some sa, some sb =>
        let q := merge sa.fr sb.fr (dsts a ++ dsts b) st.fr rb.cnt
        ⟨.ite x (ra.p.app q.1) (rb.p.app q.2.1) .nil, some { fr := q.2.2.1, cnt := q.2.2.2, known := st.known }, ra.ex ++ rb.ex, q.2.2.2⟩
      | some sa, none => ⟨.ite x ra.p rb.p .nil, some { sa with cnt := rb.cnt }, ra.ex ++ rb.ex, rb.cnt⟩
      | none, some sb => ⟨.ite x ra.p rb.p .nil, some sb, ra.ex ++ rb.ex, rb.cnt⟩
      | none, none => ⟨.ite x ra.p rb.p .nil, none, ra.ex ++ rb.ex, rb.cnt⟩
    | none => none
  | .block id (.loop b), st =>
    let q := head (dsts b).eraseDups st
    (bld nt b q.2.1).bind fun r =>
      match r.nx, r.ex with
      | some s, [(i, e)] => if i = id then
          (tail1 s.fr q.2.2 r.cnt).map fun z => ⟨q.1.app (.loop (r.p.app (z.1.app (tail2 z.2.1))) .nil), some { e with cnt := z.2.2 }, [], z.2.2⟩
        else none
      | some s, [] => (tail1 s.fr q.2.2 r.cnt).map fun z => ⟨q.1.app (.loop (r.p.app (z.1.app (tail2 z.2.1))) .nil), none, [], z.2.2⟩
      | _, _ => none
  | .block id b, st => (bld nt b st).bind fun r => if r.ex.all (fun p => p.1 != id) then some r else none
  | .exit id, st => some ⟨.exit, none, [(id, st)], st.cnt⟩
  | .ret, st => (evalSVs st.fr (rs.map .tmp)).map fun xs => ⟨.ret xs, none, [], st.cnt⟩
  | _, _ => none

end
end Go.Lx

/- Programs over symbols: their laws; what a program promises, the code it was taken from does. -/
namespace Go.Lx
open Go.CX (T deep pureRun fieldOffT)

section
variable {P : Program}

theorem uponK_mono {K K' : Value → World → Prop} (h : ∀ v w, K v w → K' v w) {r : Result Next} (hr : uponK P K r) : uponK P K' r := by
  cases r with
  | halt x w => exact hr.elim
  | ok n w =>
    cases n with
    | value v => exact h _ _ hr
    | skip => exact h _ _ hr
    | enter f args =>
      refine Calls.mono hr ?_
      intro e w' he
      cases e with
      | returned v => exact h _ _ he
      | panicked c => exact he.elim
      | outgrown => exact he.elim
    | _ => exact hr.elim

theorem opWp_mono {o : Oper} {args : List Value} {w : World} {K K' : Value → World → Prop} (h : ∀ v w, K v w → K' v w) (hr : opWp P o args w K) : opWp P o args w K' :=
  fun ρ hρ => uponK_mono h (hr ρ hρ)

theorem roundsP_mono {B : (Out → (Nat → Value) → World → Prop) → (Nat → Value) → World → Prop} (hB : ∀ Q Q' η w, (∀ o η w, Q o η w → Q' o η w) → B Q η w → B Q' η w)
    {Q Q' : Out → (Nat → Value) → World → Prop} (h : ∀ o η w, o ≠ .nrm → Q o η w → Q' o η w) : ∀ n η w, roundsP B Q n η w → roundsP B Q' n η w := by
  intro n
  induction n with
  | zero => intro η w hr; exact hr
  | succ n ih =>
    intro η w hr
    refine hB _ _ _ _ ?_ hr
    intro o η w ho
    cases o with
    | nrm => exact ih η w ho
    | ext => exact h _ _ _ (by simp) ho
    | ret vs => exact h _ _ _ (by simp) ho

theorem Prog.wp_mono : ∀ (p : Prog) (Q Q' : Out → (Nat → Value) → World → Prop) (η : Nat → Value) (w : World), (∀ o η w, Q o η w → Q' o η w) → p.wp P Q η w → p.wp P Q' η w := by
  intro p
  induction p with
  | nil => intro Q Q' η w h hp; exact h _ _ _ hp
  | op o args n k ih => intro Q Q' η w h hp; exact opWp_mono (fun v w hk => ih Q Q' _ _ h hk) hp
  | chk n k ih => intro Q Q' η w h hp; exact ⟨hp.1, ih Q Q' _ _ h hp.2⟩
  | set n x k ih => intro Q Q' η w h hp; exact ih Q Q' _ _ h hp
  | ite c a b k iha ihb ihk =>
    intro Q Q' η w h hp
    obtain ⟨t, h1, h2, h3⟩ := hp
    refine ⟨t, h1, fun ht => iha _ _ _ _ ?_ (h2 ht), fun ht => ihb _ _ _ _ ?_ (h3 ht)⟩
    all_goals
      intro o η w ho
      cases o with
      | nrm => exact ihk Q Q' _ _ h ho
      | ext => exact h _ _ _ ho
      | ret vs => exact h _ _ _ ho
  | loop b k ihb ihk =>
    intro Q Q' η w h hp
    obtain ⟨n, hn⟩ := hp
    refine ⟨n, roundsP_mono (fun Q Q' η w hq hb => ihb Q Q' η w hq hb) ?_ n η w hn⟩
    intro o η w hne ho
    cases o with
    | nrm => exact (hne rfl).elim
    | ext => exact ihk Q Q' _ _ h ho
    | ret vs => exact h _ _ _ ho
  | keep o args n k ih => intro Q Q' η w h hp; exact ⟨hp.1, ih Q Q' _ _ h hp.2⟩
  | look o args n k ih => intro Q Q' η w h hp ρ hρ; obtain ⟨v, h1, h2⟩ := hp ρ hρ; exact ⟨v, h1, ih Q Q' _ _ h h2⟩
  | draw k ih => intro Q Q' η w h hp; exact ih Q Q' _ _ h hp
  | flip n k ih => intro Q Q' η w h hp b; exact ih Q Q' _ _ h (hp b)
  | exit => intro Q Q' η w h hp; exact h _ _ _ hp
  | ret xs => intro Q Q' η w h hp; exact h _ _ _ hp

/-- Behind a program, another one. -/
def thenP (P : Program) (r : Prog) (Q : Out → (Nat → Value) → World → Prop) : Out → (Nat → Value) → World → Prop := fun o η w => match o with
  | .nrm => r.wp P Q η w
  | o => Q o η w

theorem Prog.wp_app (r : Prog) : ∀ (p : Prog) (Q : Out → (Nat → Value) → World → Prop) (η : Nat → Value) (w : World), (p.app r).wp P Q η w → p.wp P (thenP P r Q) η w := by
  intro p
  induction p with
  | nil => intro Q η w h; exact h
  | op o args n k ih => intro Q η w h; exact opWp_mono (fun v w hk => ih Q _ _ hk) h
  | chk n k ih => intro Q η w h; exact ⟨h.1, ih Q _ _ h.2⟩
  | set n x k ih => intro Q η w h; exact ih Q _ _ h
  | ite c a b k _ _ ihk =>
    intro Q η w h
    obtain ⟨t, h1, h2, h3⟩ := h
    refine ⟨t, h1, fun ht => Prog.wp_mono _ _ _ _ _ ?_ (h2 ht), fun ht => Prog.wp_mono _ _ _ _ _ ?_ (h3 ht)⟩
    all_goals
      intro o η w ho
      cases o with
      | nrm => exact ihk Q _ _ ho
      | ext => exact ho
      | ret vs => exact ho
  | loop b k _ ihk =>
    intro Q η w h
    obtain ⟨n, hn⟩ := h
    refine ⟨n, roundsP_mono (fun Q Q' η w hq hb => Prog.wp_mono b Q Q' η w hq hb) ?_ n η w hn⟩
    intro o η w hne ho
    cases o with
    | nrm => exact (hne rfl).elim
    | ext => exact ihk Q _ _ ho
    | ret vs => exact ho
  | keep o args n k ih => intro Q η w h; exact ⟨h.1, ih Q _ _ h.2⟩
  | look o args n k ih => intro Q η w h ρ hρ; obtain ⟨v, h1, h2⟩ := h ρ hρ; exact ⟨v, h1, ih Q _ _ h2⟩
  | draw k ih => intro Q η w h; exact ih Q _ _ h
  | flip n k ih => intro Q η w h b; exact ih Q _ _ (h b)
  | exit => intro Q η w h; exact h
  | ret xs => intro Q η w h; exact h

/-! Frames. -/
structure FR (nt : Nat) (st : BS) (η : Nat → Value) (a : Act) : Prop where
  defers : a.defers = []
  size : a.tmps.size = nt
  get : ∀ t x, st.fr.get deep t = some x → x.lt st.cnt ∧ a.tmps[t]? = some (x.val η)
  known : ∀ n ∈ st.known, n < st.cnt ∧ ∃ ad, η n = .pointer (some ad)

/-- Symbols below a number are as they were. -/
def Ag (c : Nat) (η η' : Nat → Value) : Prop := ∀ m, m < c → η' m = η m

theorem Ag.refl (c : Nat) (η : Nat → Value) : Ag c η η := fun _ _ => rfl
theorem Ag.trans {c c' : Nat} {a b d : Nat → Value} (h : Ag c a b) (k : Ag c' b d) (hc : c ≤ c') : Ag c a d := fun m hm => (k m (by omega)).trans (h m hm)

theorem SV.val_ag {c : Nat} {η η' : Nat → Value} (h : Ag c η η') {x : SV} (hx : x.lt c) : x.val η' = x.val η := by
  cases x with
  | k v => rfl
  | s n => exact h n hx
  | q n off => simp only [SV.val, h n hx]

theorem Ag.upd (c : Nat) (η : Nat → Value) (n : Nat) (v : Value) (h : c ≤ n) : Ag c η (upd η n v) := fun m hm => by unfold Lx.upd; rw [if_neg (by omega)]

theorem SV.lt_le {c c' : Nat} {x : SV} (h : x.lt c) (hc : c ≤ c') : x.lt c' := by
  cases x with
  | k v => trivial
  | s n => exact Nat.lt_of_lt_of_le h hc
  | q n off => exact Nat.lt_of_lt_of_le h hc

theorem evalSV_val {nt : Nat} {st : BS} {η : Nat → Value} {a : Act} (hf : FR nt st η a) {x : Operand} {y : SV} (hy : evalSV st.fr x = some y) : y.lt st.cnt ∧ y.val η = a.eval x := by
  cases x with
  | tmp t =>
    obtain ⟨h1, h2⟩ := hf.get t y hy
    exact ⟨h1, by simp [Act.eval, h2]⟩
  | const v => simp only [evalSV, Option.some.injEq] at hy; subst hy; exact ⟨trivial, rfl⟩
  | global g => simp only [evalSV, Option.some.injEq] at hy; subst hy; exact ⟨trivial, rfl⟩
  | func f => simp only [evalSV, Option.some.injEq] at hy; subst hy; exact ⟨trivial, rfl⟩

theorem evalSVs_val {nt : Nat} {st : BS} {η : Nat → Value} {a : Act} (hf : FR nt st η a) : ∀ {xs : List Operand} {ys : List SV}, evalSVs st.fr xs = some ys → (∀ y ∈ ys, y.lt st.cnt) ∧ xs.map a.eval = ys.map (SV.val η) := by
  intro xs
  induction xs with
  | nil => intro ys hy; simp [evalSVs] at hy; subst hy; simp
  | cons x r ih =>
    intro ys hy
    simp only [evalSVs, Option.bind_eq_some_iff, Option.map_eq_some_iff] at hy
    obtain ⟨y, h1, zs, h2, rfl⟩ := hy
    obtain ⟨g1, g2⟩ := evalSV_val hf h1
    obtain ⟨g3, g4⟩ := ih h2
    refine ⟨fun z hz => ?_, by simp [g2, g4]⟩
    rcases List.mem_cons.1 hz with rfl | hz
    · exact g1
    · exact g3 z hz

/-- A slot is written. -/
theorem FR.put {nt : Nat} {st : BS} {η η' : Nat → Value} {a : Act} (hf : FR nt st η a) (ha : Ag st.cnt η η') {dst : Option Tmp} (hd : CX.dstOk nt dst = true) {x : Option SV} {v : Value} {c : Nat} (hc : st.cnt ≤ c)
    {kn : List Nat} (hk : ∀ n ∈ kn, n ∈ st.known ∨ (n < c ∧ ∃ ad, η' n = .pointer (some ad))) (hx : ∀ y, x = some y → y.lt c ∧ y.val η' = v) :
    FR nt { putS st dst x with cnt := c, known := kn } η' (a.put dst v) := by
  have hkn : ∀ n ∈ kn, n < c ∧ ∃ ad, η' n = .pointer (some ad) := by
    intro n hn
    rcases hk n hn with h | h
    · obtain ⟨h1, ad, h2⟩ := hf.known n h
      exact ⟨by omega, ad, by rw [ha n h1]; exact h2⟩
    · exact h
  have old : ∀ t y, st.fr.get deep t = some y → y.lt c ∧ a.tmps[t]? = some (y.val η') := fun t y hy => by
    obtain ⟨h1, h2⟩ := hf.get t y hy
    exact ⟨SV.lt_le h1 hc, by rw [SV.val_ag ha h1]; exact h2⟩
  cases dst with
  | none => exact ⟨hf.defers, hf.size, old, hkn⟩
  | some d =>
    simp only [CX.dstOk, Nat.blt_eq] at hd
    refine ⟨hf.defers, by simp [Act.put, hf.size], fun t y hy => ?_, hkn⟩
    rcases CX.T.get_set _ _ _ _ _ _ hy with ⟨rfl, h2⟩ | ⟨h1, h2⟩
    · obtain ⟨h3, h4⟩ := hx y h2
      exact ⟨h3, by simp [Act.put, hf.size, hd, h4]⟩
    · obtain ⟨h3, h4⟩ := old t y h2
      exact ⟨h3, by simpa [Act.put, Array.getElem?_setIfInBounds_ne (Ne.symm h1)] using h4⟩

theorem oper_of {o : Oper} {a : Act} {w : World} {K : Act → World → Prop} {Q : Exit → Act → World → Prop} {K' : Value → World → Prop} (h : uponK P K' ((execOp a.eval o).run P w)) (hk : ∀ v w, K' v w → K (a.put o.dst v) w) : o.wp P a w K Q := by
  unfold Oper.wp
  generalize (execOp a.eval o).run P w = r at h
  cases r with
  | halt x w' => exact h.elim
  | ok n w' =>
    cases n with
    | value v => exact hk _ _ h
    | skip => exact hk _ _ h
    | enter f args =>
      refine Calls.mono h ?_
      intro e w'' he
      cases e with
      | returned v => exact hk _ _ he
      | panicked c => exact he.elim
      | outgrown => exact he.elim
    | _ => exact h.elim

theorem add_add' (a : Addr) (m n : Nat) : (a.add m).add n = a.add (m + n) := by
  unfold Addr.add
  by_cases hm : m = 0
  · subst hm; simp
  · by_cases hn : n = 0
    · subst hn; simp [hm]
    · simp [hm, hn, Nat.add_assoc]

end
end Go.Lx

/- Operations, branches and loops of the builder: the code does what the program promises. -/
namespace Go.Lx
open Go.CX (T deep pureRun fieldOffT)

section
variable {P : Program} {nt : Nat}

/-- A piece of program in front of a frame. -/
theorem opB_ok {o : Oper} {st st' : BS} {p : Prog} (hb : opB P o st = some (p, st')) (hd : CX.dstOk nt o.dst = true) : st.cnt ≤ st'.cnt ∧ (∀ t, o.dst ≠ some t → st'.fr.get deep t = st.fr.get deep t) ∧
    ∀ {η : Nat → Value} {a : Act} {w : World} {QP : Out → (Nat → Value) → World → Prop} {K : Act → World → Prop} {Q : Exit → Act → World → Prop}, FR nt st η a → p.wp P QP η w →
      (∀ η' a' w', FR nt st' η' a' → Ag st.cnt η η' → QP .nrm η' w' → K a' w') → o.wp P a w K Q := by
  have keep : ∀ (x : Option SV) (t : Tmp), o.dst ≠ some t → (putS st o.dst x).fr.get deep t = st.fr.get deep t := by
    intro x t ht
    unfold putS
    cases hdst : o.dst with
    | none => rfl
    | some d => exact CX.T.get_set_ne _ _ _ _ _ (fun e => ht (by rw [hdst, e]))
  -- a value that is known ahead, and nothing else
  have pureOp : ∀ (x : SV) (kn : List Nat), (∀ {η : Nat → Value} {a : Act} {w : World}, FR nt st η a → (∀ n ∈ kn, n ∈ st.known ∨ (n < st.cnt ∧ ∃ ad, η n = .pointer (some ad))) → x.lt st.cnt ∧ (execOp a.eval o).run P w = .ok (.value (x.val η)) w) →
      ∀ {η : Nat → Value} {a : Act} {w : World} {K : Act → World → Prop} {Q : Exit → Act → World → Prop} {QP : Out → (Nat → Value) → World → Prop}, FR nt st η a → (∀ n ∈ kn, n ∈ st.known ∨ (n < st.cnt ∧ ∃ ad, η n = .pointer (some ad))) → QP .nrm η w →
        (∀ η' a' w', FR nt { putS st o.dst (some x) with cnt := st.cnt, known := kn } η' a' → Ag st.cnt η η' → QP .nrm η' w' → K a' w') → o.wp P a w K Q := by
    intro x kn hx η a w K Q QP hf hkn hq hk
    obtain ⟨h1, h2⟩ := hx (w := w) hf hkn
    refine CX.wp_val h2 (hk η _ w (hf.put (Ag.refl _ _) hd (Nat.le_refl _) hkn ?_) (Ag.refl _ _) hq)
    intro y hy; cases hy; exact ⟨h1, rfl⟩
  have same : ∀ x : Option SV, ({ putS st o.dst x with cnt := st.cnt, known := st.known } : BS) = putS st o.dst x := by intro x; unfold putS; cases o.dst <;> rfl
  have mv : ∀ (x : Operand), (∀ (a : Act) (w : World), (execOp a.eval o).run P w = .ok (.value (a.eval x)) w) → ∀ (p : Prog) (st' : BS), ((evalSV st.fr x).map fun a => (Prog.nil, putS st o.dst (some a))) = some (p, st') →
      st.cnt ≤ st'.cnt ∧ (∀ t, o.dst ≠ some t → st'.fr.get deep t = st.fr.get deep t) ∧
      ∀ {η : Nat → Value} {a : Act} {w : World} {QP : Out → (Nat → Value) → World → Prop} {K : Act → World → Prop} {Q : Exit → Act → World → Prop}, FR nt st η a → p.wp P QP η w →
        (∀ η' a' w', FR nt st' η' a' → Ag st.cnt η η' → QP .nrm η' w' → K a' w') → o.wp P a w K Q := by
    intro x hrun p st' he
    simp only [Option.map_eq_some_iff, Prod.mk.injEq] at he
    obtain ⟨y, hy, rfl, rfl⟩ := he
    refine ⟨by unfold putS; cases o.dst <;> exact Nat.le_refl _, keep _, fun {η a w QP K Q} hf hp hk => ?_⟩
    refine pureOp y st.known (fun {η a w} hf _ => ?_) hf (fun n hn => .inl hn) hp (by rw [same]; exact hk)
    obtain ⟨h1, h2⟩ := evalSV_val hf hy
    exact ⟨h1, by rw [h2]; exact hrun a w⟩
  have gen : ∀ (ops : List Operand), o.op.operands.toList = ops → ((evalSVs st.fr ops).bind fun args => match fold P o args with
      | some v => some (Prog.nil, putS st o.dst (some (.k v)))
      | none => some (stay o args st)) = some (p, st') →
      st.cnt ≤ st'.cnt ∧ (∀ t, o.dst ≠ some t → st'.fr.get deep t = st.fr.get deep t) ∧
      ∀ {η : Nat → Value} {a : Act} {w : World} {QP : Out → (Nat → Value) → World → Prop} {K : Act → World → Prop} {Q : Exit → Act → World → Prop}, FR nt st η a → p.wp P QP η w →
        (∀ η' a' w', FR nt st' η' a' → Ag st.cnt η η' → QP .nrm η' w' → K a' w') → o.wp P a w K Q := by
    intro ops hops he
    simp only [Option.bind_eq_some_iff] at he
    obtain ⟨args, hargs, he⟩ := he
    split at he
    · rename_i v hv
      cases he
      refine ⟨by unfold putS; cases o.dst <;> exact Nat.le_refl _, keep _, fun {η a w QP K Q} hf hp hk => ?_⟩
      refine pureOp (.k v) st.known (fun {η a w} hf _ => ⟨trivial, ?_⟩) hf (fun n hn => .inl hn) hp (by rw [same]; exact hk)
      obtain ⟨hlts, hval⟩ := evalSVs_val hf hargs
      clear hlts
      unfold fold at hv
      split at hv
      · rename_i op t x y yt u v' hop
        rw [hop] at hops
        simp only [Op.operands] at hops
        subst hops
        simp only [List.map_cons, List.map_nil, SV.val, List.cons.injEq, and_true] at hval
        have := CX.pureRun_run hv w
        simp only [execOp, hop, hval.1, hval.2]
        rw [Sem.run_bind, this]; rfl
      · rename_i op t x u hop
        rw [hop] at hops
        simp only [Op.operands] at hops
        subst hops
        simp only [List.map_cons, List.map_nil, SV.val, List.cons.injEq, and_true] at hval
        simp only [execOp, hop, hval, Sem.run_bind, CX.pureRun_run hv w, Result.andThen_ok, Sem.run_pure, SV.val]
      · rename_i s d x u hop
        rw [hop] at hops
        simp only [Op.operands] at hops
        subst hops
        simp only [List.map_cons, List.map_nil, SV.val, List.cons.injEq, and_true] at hval
        simp only [execOp, hop, hval, Sem.run_bind, CX.pureRun_run hv w, Result.andThen_ok, Sem.run_pure, SV.val]
      · cases hv
    · simp only [Option.some.injEq] at he
      unfold stay at he
      split at he
      · simp only [Prod.mk.injEq] at he
        obtain ⟨rfl, rfl⟩ := he
        refine ⟨by simp, keep _, fun {η a w QP K Q} hf hp hk => ?_⟩
        obtain ⟨_, hval⟩ := evalSVs_val hf hargs
        have hp' := hp a.eval (by rw [hops]; exact hval)
        refine oper_of hp' ?_
        rintro v w' ⟨⟨ad, had⟩, hq⟩
        have had : v = .pointer (some ad) := by simpa [upd] using had
        have hag := Ag.upd st.cnt η st.cnt v (Nat.le_refl _)
        refine hk _ _ w' (hf.put hag hd (by omega) (fun n hn => ?_) ?_) hag hq
        · rcases List.mem_cons.1 hn with rfl | hn
          · exact .inr ⟨by omega, ad, by simp [upd, had]⟩
          · exact .inl hn
        · intro y hy; cases hy
          refine ⟨Nat.lt_succ_self _, ?_⟩
          subst had
          simp [SV.val, upd, Addr.add]
      · simp only [Prod.mk.injEq] at he
        obtain ⟨rfl, rfl⟩ := he
        refine ⟨by simp, keep _, fun {η a w QP K Q} hf hp hk => ?_⟩
        obtain ⟨_, hval⟩ := evalSVs_val hf hargs
        have hp' := hp a.eval (by rw [hops]; exact hval)
        refine oper_of hp' ?_
        intro v w' hq
        have hag := Ag.upd st.cnt η st.cnt v (Nat.le_refl _)
        have hkk : (putS st o.dst (some (.s st.cnt))).known = st.known := by unfold putS; cases o.dst <;> rfl
        refine hk _ _ w' (hf.put hag hd (by omega) (fun n hn => .inl (by rw [hkk] at hn; exact hn)) ?_) hag hq
        intro y hy; cases hy
        exact ⟨Nat.lt_succ_self _, by simp [SV.val, upd]⟩
  unfold opB at hb
  cases ho : o.op with
  | move x => simp only [ho] at hb; exact mv x (fun a w => by simp only [execOp, ho]; rfl) p st' hb
  | assign x => simp only [ho] at hb; exact mv x (fun a w => by simp only [execOp, ho]; rfl) p st' hb
  | pick c x y =>
    simp only [ho] at hb
    split at hb
    · rename_i hc
      simp only [Option.map_eq_some_iff, Prod.mk.injEq] at hb
      obtain ⟨z, hz, rfl, rfl⟩ := hb
      refine ⟨by unfold putS; cases o.dst <;> exact Nat.le_refl _, keep _, fun {η a w QP K Q} hf hp hk => ?_⟩
      refine pureOp z st.known (fun {η a w} hf _ => ?_) hf (fun n hn => .inl hn) hp (by rw [same]; exact hk)
      obtain ⟨h1, h2⟩ := evalSV_val hf hz
      obtain ⟨_, h3⟩ := evalSV_val hf hc
      have h3 := h3.symm
      simp only [SV.val] at h3
      exact ⟨h1, by simp [execOp, ho, h3, asBool, h2]⟩
    · rename_i hc
      simp only [Option.map_eq_some_iff, Prod.mk.injEq] at hb
      obtain ⟨z, hz, rfl, rfl⟩ := hb
      refine ⟨by unfold putS; cases o.dst <;> exact Nat.le_refl _, keep _, fun {η a w QP K Q} hf hp hk => ?_⟩
      refine pureOp z st.known (fun {η a w} hf _ => ?_) hf (fun n hn => .inl hn) hp (by rw [same]; exact hk)
      obtain ⟨h1, h2⟩ := evalSV_val hf hz
      obtain ⟨_, h3⟩ := evalSV_val hf hc
      have h3 := h3.symm
      simp only [SV.val] at h3
      exact ⟨h1, by simp [execOp, ho, h3, asBool, h2]⟩
    · rename_i m hc
      simp only [Option.bind_eq_some_iff, Option.map_eq_some_iff, Prod.mk.injEq] at hb
      obtain ⟨va, hva, vb, hvb, rfl, rfl⟩ := hb
      refine ⟨Nat.le_succ _, keep _, fun {η a w QP K Q} hf hp hk => ?_⟩
      obtain ⟨t, ht, b1, b2⟩ := hp
      obtain ⟨hcl, hcv⟩ := evalSV_val hf hc
      obtain ⟨hal, hav⟩ := evalSV_val hf hva
      obtain ⟨hbl, hbv⟩ := evalSV_val hf hvb
      have hrun : ∀ v, (t = true → v = va.val η) → (t = false → v = vb.val η) → (execOp a.eval o).run P w = .ok (.value v) w := by
        intro v h1 h2
        have : a.eval c = .bool t := by rw [← hcv]; exact ht
        cases t with
        | true => simp [execOp, ho, this, asBool, ← hav, h1 rfl]
        | false => simp [execOp, ho, this, asBool, ← hbv, h2 rfl]
      have go : ∀ v, (t = true → v = va.val η) → (t = false → v = vb.val η) → QP .nrm (upd η st.cnt v) w → o.wp P a w K Q := by
        intro v h1 h2 hq
        have hag := Ag.upd st.cnt η st.cnt v (Nat.le_refl _)
        have hkn : (putS st o.dst (some (.s st.cnt))).known = st.known := by unfold putS; cases o.dst <;> rfl
        have hf1 := hf.put hag hd (x := some (.s st.cnt)) (v := v) (c := st.cnt + 1) (kn := st.known) (Nat.le_succ _) (fun n hn => .inl hn) (fun y hy => by
          cases hy
          exact ⟨Nat.lt_succ_self _, by simp [SV.val, upd]⟩)
        refine CX.wp_val (hrun v h1 h2) (hk _ _ w ?_ hag hq)
        rw [hkn]
        exact hf1
      cases t with
      | true => exact go _ (fun _ => rfl) (fun h => by cases h) (b1 rfl)
      | false => exact go _ (fun h => by cases h) (fun _ => rfl) (b2 rfl)
    · cases hb
  | fieldAddr t x f =>
    simp only [ho] at hb
    split at hb
    · rename_i n off hx
      split at hb
      · rename_i hkn
        simp only [Option.map_eq_some_iff, Prod.mk.injEq] at hb
        obtain ⟨d, hfd, rfl, rfl⟩ := hb
        refine ⟨by unfold putS; cases o.dst <;> exact Nat.le_refl _, keep _, fun {η a w QP K Q} hf hp hk => ?_⟩
        refine pureOp (.q n (off + d)) st.known (fun {η a w} hf _ => ?_) hf (fun n hn => .inl hn) hp (by rw [same]; exact hk)
        obtain ⟨h1, h2⟩ := evalSV_val hf hx
        obtain ⟨_, ad, had⟩ := hf.known n (List.contains_iff_mem.1 hkn)
        refine ⟨h1, ?_⟩
        simp only [SV.val, had] at h2 ⊢
        unfold fieldOffT at hfd
        split at hfd
        · rename_i fs hu
          simp only [Option.bind_eq_some_iff] at hfd
          obtain ⟨fd, hfd, m, hm, hfd'⟩ := hfd
          split at hfd'
          · cases hfd'
          · rename_i hm0
            cases hfd'
            simp only [execOp, ho, ← h2, Instr.fieldAt, Sem.run_bind, run_underlying hu, Result.andThen_ok, hfd, Instr.sureAddr, Sem.run_pure, fieldPlace, CX.run_sizeOf' hm, hm0, if_false, add_add']
        · cases hfd
      · cases hb
    · cases hb
  | nilCheck x =>
    simp only [ho] at hb
    have run : ∀ {a : Act} {w : World} {ad : Addr}, a.eval x = .pointer (some ad) → (execOp a.eval o).run P w = .ok (.value (.pointer (some ad))) w := by
      intro a w ad h; simp only [execOp, ho, h]; rfl
    split at hb
    · rename_i n off hx
      split at hb
      · rename_i hkn
        cases hb
        refine ⟨by unfold putS; cases o.dst <;> exact Nat.le_refl _, keep _, fun {η a w QP K Q} hf hp hk => ?_⟩
        refine pureOp (.q n off) st.known (fun {η a w} hf _ => ?_) hf (fun n hn => .inl hn) hp (by rw [same]; exact hk)
        obtain ⟨h1, h2⟩ := evalSV_val hf hx
        obtain ⟨_, ad, had⟩ := hf.known n (List.contains_iff_mem.1 hkn)
        refine ⟨h1, ?_⟩
        simp only [SV.val, had] at h2 ⊢
        exact run h2.symm
      · cases hb
    · rename_i n hx
      split at hb
      · rename_i hkn
        cases hb
        refine ⟨by unfold putS; cases o.dst <;> exact Nat.le_refl _, keep _, fun {η a w QP K Q} hf hp hk => ?_⟩
        refine pureOp (.q n 0) st.known (fun {η a w} hf _ => ?_) hf (fun n hn => .inl hn) hp (by rw [same]; exact hk)
        obtain ⟨h1, h2⟩ := evalSV_val hf hx
        obtain ⟨_, ad, had⟩ := hf.known n (List.contains_iff_mem.1 hkn)
        refine ⟨h1, ?_⟩
        simp only [SV.val, had] at h2 ⊢
        simpa [Addr.add] using run h2.symm
      · rename_i hkn
        cases hb
        refine ⟨by unfold putS; cases o.dst <;> exact Nat.le_refl _, keep _, fun {η a w QP K Q} hf hp hk => ?_⟩
        obtain ⟨⟨ad, had⟩, hq⟩ := hp
        obtain ⟨hlt, _⟩ := evalSV_val hf hx
        have hcn : (putS st o.dst (some (.q n 0))).cnt = st.cnt := by unfold putS; cases o.dst <;> rfl
        have hst : ({ putS st o.dst (some (.q n 0)) with known := n :: st.known } : BS) = { putS st o.dst (some (.q n 0)) with cnt := st.cnt, known := n :: st.known } := by rw [← hcn]
        rw [hst] at hk
        refine CX.wp_val (v := .pointer (some ad)) (w' := w) (run ?_) (hk η _ w (hf.put (Ag.refl _ _) hd (Nat.le_refl _) (fun m hm => ?_) ?_) (Ag.refl _ _) hq)
        · obtain ⟨_, h2⟩ := evalSV_val hf hx
          simp only [SV.val, had] at h2
          exact h2.symm
        · rcases List.mem_cons.1 hm with rfl | hm
          · exact .inr ⟨hlt, ad, had⟩
          · exact .inl hm
        · intro y hy; cases hy
          exact ⟨hlt, by simp [SV.val, had, Addr.add]⟩
    · cases hb
  | _ => simp only [ho] at hb; exact gen _ (by rw [ho]) hb

theorem guardB_val {ops : Array Oper} {st : BS} {η : Nat → Value} {a : Act} (hf : FR nt st η a) {o : Oper} {b : Bool} (hg : guardB ops st.fr o = some b) : Region.wanted o (yielded ops a.tmps) = b := by
  unfold guardB at hg
  unfold Region.wanted
  split at hg
  · rename_i h; rw [h]; simpa using hg
  · rename_i j want h
    rw [h]
    simp only [yielded]
    cases hd : (ops[j]?).bind (·.dst) with
    | none => rw [hd] at hg; simp at hg
    | some d =>
      rw [hd] at hg
      simp only [Option.bind_some] at hg ⊢
      split at hg
      · rename_i c hc
        obtain ⟨_, hv⟩ := hf.get d _ hc
        rw [hv]
        simp only [SV.val, Option.some.injEq] at hg ⊢
        cases c <;> cases want <;> simp_all
      · rename_i hc
        obtain ⟨_, hv⟩ := hf.get d _ hc
        rw [hv]
        simp at hg
        simp [hg, SV.val]
      · cases hg

theorem guardS_val {ops : Array Oper} {st : BS} {η : Nat → Value} {a : Act} (hf : FR nt st η a) {o : Oper} {x : SV} {want : Bool} (hg : guardS ops st.fr o = some (x, want)) {t : Bool} (ht : x.val η = .bool t) :
    Region.wanted o (yielded ops a.tmps) = (t == want) := by
  unfold guardS at hg
  unfold Region.wanted
  split at hg
  · rename_i j want' h
    rw [h]
    simp only [yielded]
    split at hg
    · rename_i n hd
      cases hg
      simp only [Option.bind_eq_some_iff] at hd
      obtain ⟨d, h1, h2⟩ := hd
      obtain ⟨_, hv⟩ := hf.get d _ h2
      have h1' : (ops[j]?).bind (·.dst) = some d := by simpa [Option.bind_eq_some_iff] using h1
      rw [h1']
      simp only [Option.bind_some]
      rw [hv, ht]
      cases t <;> cases want <;> rfl
    · cases hg
  · cases hg

/-- An operation behind a guard that is known when the program runs. -/
theorem guarded_ok {o : Oper} {st : BS} {p : Prog × BS} (hp : opB P o st = some p) (hd : CX.dstOk nt o.dst = true) {A B : Prog} {st' : BS} (hz : guarded o st p = some (A, B, st')) :
    st.cnt ≤ st'.cnt ∧ (∀ t, o.dst ≠ some t → st'.fr.get deep t = st.fr.get deep t) ∧
    (∀ {η : Nat → Value} {a : Act} {w : World} {QP : Out → (Nat → Value) → World → Prop} {K : Act → World → Prop} {Q : Exit → Act → World → Prop}, FR nt st η a → A.wp P QP η w →
      (∀ η' a' w', FR nt st' η' a' → Ag st.cnt η η' → QP .nrm η' w' → K a' w') → o.wp P a w K Q) ∧
    (∀ {η : Nat → Value} {a : Act} {w : World} {QP : Out → (Nat → Value) → World → Prop}, FR nt st η a → B.wp P QP η w → ∃ η', FR nt st' η' (a.put o.dst undef) ∧ Ag st.cnt η η' ∧ QP .nrm η' w) := by
  obtain ⟨p, s⟩ := p
  obtain ⟨g1, g2, g3⟩ := opB_ok (nt := nt) hp hd
  unfold guarded at hz
  split at hz
  · rename_i d hdst
    dsimp only at hz
    split at hz
    · rename_i y hy
      cases hz
      refine ⟨by dsimp only; omega, fun t ht => CX.T.get_set_ne _ _ _ _ _ (fun e => ht (by rw [hdst, e])), ?_, ?_⟩
      · intro η a w QP K Q hf hA hk
        refine g3 hf (Prog.wp_app _ _ _ _ _ hA) ?_
        intro η' a' w' hf' hag hq
        have hyc := hf'.get d y hy
        have hag2 : Ag s.cnt η' (upd η' s.cnt (y.val η')) := Ag.upd _ _ _ _ (Nat.le_refl _)
        refine hk (upd η' s.cnt (y.val η')) a' w' ⟨hf'.defers, hf'.size, fun t x hx => ?_, fun n hn => ?_⟩ (hag.trans hag2 g1) hq
        · rcases CX.T.get_set _ _ _ _ _ _ hx with ⟨rfl, h2⟩ | ⟨h1, h2⟩
          · cases h2
            refine ⟨Nat.lt_succ_self _, ?_⟩
            rw [hyc.2]
            simp [SV.val, upd]
          · have h2' : s.fr.get deep t = some x := by rw [g2 t (fun e => h1 (by rw [hdst] at e; cases e; rfl))]; exact h2
            obtain ⟨k1, k2⟩ := hf'.get t x h2'
            exact ⟨SV.lt_le k1 (by dsimp only; omega), by rw [SV.val_ag hag2 k1]; exact k2⟩
        · obtain ⟨k1, ad, k2⟩ := hf.known n hn
          exact ⟨by dsimp only; omega, ad, by rw [hag2 n (by omega), hag n k1]; exact k2⟩
      · intro η a w QP hf hB
        have hag2 : Ag st.cnt η (upd η s.cnt undef) := Ag.upd _ _ _ _ g1
        refine ⟨upd η s.cnt undef, ?_, hag2, hB⟩
        have hc : st.cnt ≤ s.cnt + 1 := Nat.le_succ_of_le g1
        have := hf.put hag2 hd (x := some (.s s.cnt)) (v := undef) (c := s.cnt + 1) (kn := st.known) hc (fun n hn => .inl hn)
          (fun z hz => by cases hz; exact ⟨Nat.lt_succ_self _, by simp [SV.val, upd]⟩)
        simpa [putS, hdst] using this
    · cases hz
  · rename_i hdst
    cases hz
    dsimp only at g1 g2 g3 ⊢
    refine ⟨g1, fun t _ => rfl, ?_, ?_⟩
    · intro η a w QP K Q hf hA hk
      refine g3 hf hA ?_
      intro η' a' w' hf' hag hq
      refine hk η' a' w' ⟨hf'.defers, hf'.size, fun t x hx => ?_, fun n hn => ?_⟩ hag hq
      · exact hf'.get t x (by rw [g2 t (by rw [hdst]; simp)]; exact hx)
      · obtain ⟨k1, ad, k2⟩ := hf.known n hn
        exact ⟨by dsimp only; omega, ad, by rw [hag n k1]; exact k2⟩
    · intro η a w QP hf hB
      refine ⟨η, ?_, Ag.refl _ _, hB⟩
      have : a.put o.dst undef = a := by rw [hdst]; rfl
      rw [this]
      exact ⟨hf.defers, hf.size, fun t x hx => ⟨SV.lt_le (hf.get t x hx).1 g1, (hf.get t x hx).2⟩, fun n hn => ⟨Nat.lt_of_lt_of_le (hf.known n hn).1 g1, (hf.known n hn).2⟩⟩

theorem opsB_ok {ops : Array Oper} : ∀ (l : List Oper) (st st' : BS) (p : Prog), opsB P nt ops l st = some (p, st') → st.cnt ≤ st'.cnt ∧ (∀ t, t ∉ l.filterMap (·.dst) → st'.fr.get deep t = st.fr.get deep t) ∧
    ∀ {η : Nat → Value} {a : Act} {w : World} {QP : Out → (Nat → Value) → World → Prop} {Q : Exit → Act → World → Prop}, FR nt st η a → p.wp P QP η w →
      (∀ η' a' w', FR nt st' η' a' → Ag st.cnt η η' → QP .nrm η' w' → Q .normal a' w') → wpList P ops Q l a w := by
  intro l
  induction l with
  | nil =>
    intro st st' p hb
    simp only [opsB, Option.some.injEq, Prod.mk.injEq] at hb
    obtain ⟨rfl, rfl⟩ := hb
    exact ⟨Nat.le_refl _, fun _ _ => rfl, fun {η a w QP Q} hf hp hq => hq η a w hf (Ag.refl _ _) hp⟩
  | cons o r ih =>
    intro st st' p hb
    simp only [opsB] at hb
    split at hb
    · rename_i hd
      split at hb
      · rename_i hg
        simp only [Option.bind_eq_some_iff, Option.map_eq_some_iff, Prod.mk.injEq] at hb
        obtain ⟨⟨p1, s1⟩, h1, ⟨p2, s2⟩, h2, rfl, rfl⟩ := hb
        obtain ⟨g1, g2, g3⟩ := opB_ok (nt := nt) h1 hd
        obtain ⟨k1, k2, k3⟩ := ih _ _ _ h2
        refine ⟨Nat.le_trans g1 k1, fun t ht => ?_, fun {η a w QP Q} hf hp hq => ?_⟩
        · rw [k2 t (fun h => ht (by simp only [List.filterMap_cons]; split; exact h; exact List.mem_cons_of_mem _ h)), g2 t (fun h => ht (by simp [h]))]
        · have hw := guardB_val hf hg
          unfold wpList
          rw [if_pos hw]
          refine .inl (g3 hf (Prog.wp_app _ _ _ _ _ hp) ?_)
          intro η' a' w' hf' hag hq'
          exact k3 hf' hq' fun η'' a'' w'' hf'' hag' hq'' => hq η'' a'' w'' hf'' (hag.trans hag' g1) hq''
      · rename_i hg
        obtain ⟨k1, k2, k3⟩ := ih _ _ _ hb
        have hc : (putS st o.dst (some (.k undef))).cnt = st.cnt := by unfold putS; cases o.dst <;> rfl
        refine ⟨by rw [← hc]; exact k1, fun t ht => ?_, fun {η a w QP Q} hf hp hq => ?_⟩
        · rw [k2 t (fun h => ht (by simp only [List.filterMap_cons]; split; exact h; exact List.mem_cons_of_mem _ h))]
          unfold putS
          cases hdst : o.dst with
          | none => rfl
          | some d => exact CX.T.get_set_ne _ _ _ _ _ (fun e => ht (by simp [hdst, e]))
        · have hw := guardB_val hf hg
          unfold wpList
          rw [if_neg (by rw [hw]; simp)]
          have hst : ({ putS st o.dst (some (.k undef)) with cnt := st.cnt, known := st.known } : BS) = putS st o.dst (some (.k undef)) := by unfold putS; cases o.dst <;> rfl
          have hf' := hf.put (Ag.refl _ _) hd (x := some (.k undef)) (v := undef) (Nat.le_refl _) (fun n hn => .inl hn) (fun y hy => by cases hy; exact ⟨trivial, rfl⟩)
          rw [hst] at hf'
          exact k3 hf' hp fun η'' a'' w'' hf'' hag' hq'' => hq η'' a'' w'' hf'' (by rw [hc] at hag'; exact hag') hq''
      · simp only [Option.bind_eq_some_iff, Option.map_eq_some_iff, Prod.mk.injEq] at hb
        obtain ⟨⟨x, want⟩, hg, p1, h1, ⟨A, B, s1⟩, hz, ⟨p2, s2⟩, h2, rfl, rfl⟩ := hb
        obtain ⟨g1, g2, g3, g4⟩ := guarded_ok (nt := nt) h1 hd hz
        obtain ⟨k1, k2, k3⟩ := ih _ _ _ h2
        dsimp only at *
        refine ⟨Nat.le_trans g1 k1, fun t ht => ?_, fun {η a w QP Q} hf hp hq => ?_⟩
        · rw [k2 t (fun h => ht (by simp only [List.filterMap_cons]; split; exact h; exact List.mem_cons_of_mem _ h)), g2 t (fun h => ht (by simp [h]))]
        · obtain ⟨t, ht, b1, b2⟩ := hp
          have hw := guardS_val hf hg ht
          have rest : ∀ η' a' w', FR nt s1 η' a' → Ag st.cnt η η' → p2.wp P QP η' w' → wpList P ops Q r a' w' := fun η' a' w' hf' hag hq' =>
            k3 hf' hq' fun η'' a'' w'' hf'' hag' hq'' => hq η'' a'' w'' hf'' (hag.trans hag' g1) hq''
          unfold wpList
          by_cases hwt : t = want
          · subst hwt
            rw [if_pos (by rw [hw]; simp)]
            refine .inl ?_
            have hA : A.wp P (fun o η w => match o with | .nrm => p2.wp P QP η w | o => QP o η w) η w := by
              cases t with
              | true => exact b1 rfl
              | false => exact b2 rfl
            exact g3 hf hA rest
          · rw [if_neg (by rw [hw]; simpa using hwt)]
            have hB : B.wp P (fun o η w => match o with | .nrm => p2.wp P QP η w | o => QP o η w) η w := by
              cases t with
              | true => cases want with
                | true => exact (hwt rfl).elim
                | false => exact b1 rfl
              | false => cases want with
                | true => exact b2 rfl
                | false => exact (hwt rfl).elim
            obtain ⟨η', f1, f2, f3⟩ := g4 hf hB
            exact rest η' _ w f1 f2 f3
    · cases hb

end
end Go.Lx

/- Code and the program that was taken from it: branches, loops. -/
namespace Go.Lx
open Go.CX (T deep pureRun fieldOffT)

section
variable {P : Program} {nt : Nat}

theorem FR.mono {st : BS} {η : Nat → Value} {a : Act} (hf : FR nt st η a) {c : Nat} (hc : st.cnt ≤ c) : FR nt { st with cnt := c } η a :=
  ⟨hf.defers, hf.size, fun t x hx => ⟨SV.lt_le (hf.get t x hx).1 hc, (hf.get t x hx).2⟩, fun n hn => ⟨Nat.lt_of_lt_of_le (hf.known n hn).1 hc, (hf.known n hn).2⟩⟩

/-- What one side of a merge does. -/
def Side (P : Program) (a : T SV) (l : List Tmp) (p : Prog) (fr' : T SV) (c c' : Nat) : Prop :=
  ∀ η : Nat → Value, ∃ η', Ag c η η' ∧ (∀ (w : World) (Q : Out → (Nat → Value) → World → Prop), p.wp P Q η w → Q .nrm η' w) ∧
    ∀ t x, t ∈ l → fr'.get deep t = some x → x.lt c' ∧ ∃ y, a.get deep t = some y ∧ x.val η' = y.val η

theorem merge_ok (a b : T SV) (c0 : Nat) : ∀ (l : List Tmp) (fr : T SV) (c : Nat), c0 ≤ c →
    c ≤ (merge a b l fr c).2.2.2 ∧ (∀ t, t ∉ l → (merge a b l fr c).2.2.1.get deep t = fr.get deep t) ∧
    ((∀ t x, a.get deep t = some x → x.lt c0) → Side P a l (merge a b l fr c).1 (merge a b l fr c).2.2.1 c (merge a b l fr c).2.2.2) ∧
    ((∀ t x, b.get deep t = some x → x.lt c0) → Side P b l (merge a b l fr c).2.1 (merge a b l fr c).2.2.1 c (merge a b l fr c).2.2.2) := by
  intro l
  induction l with
  | nil =>
    intro fr c hc
    exact ⟨Nat.le_refl _, fun _ _ => rfl, fun _ η => ⟨η, Ag.refl _ _, fun w Q h => h, fun t x ht => by simp at ht⟩, fun _ η => ⟨η, Ag.refl _ _, fun w Q h => h, fun t x ht => by simp at ht⟩⟩
  | cons t r ih =>
    intro fr c hc
    simp only [merge]
    -- what a slot that is not met again holds
    have last : ∀ (z : Option SV) (c1 : Nat), c0 ≤ c1 → ∀ x, (merge a b r (fr.set deep t z) c1).2.2.1.get deep t = some x → t ∉ r → z = some x := by
      intro z c1 h1 x hx hr
      rw [(ih (fr.set deep t z) c1 h1).2.1 t hr] at hx
      rcases CX.T.get_set _ _ _ _ _ _ hx with ⟨_, h2⟩ | ⟨h2, _⟩
      · exact h2
      · exact (h2 rfl).elim
    split
    · rename_i x y hxa hyb
      split
      · rename_i hs
        have hxy := SV.same_eq hs
        subst hxy
        obtain ⟨g1, g2, g3, g4⟩ := ih (fr.set deep t (some x)) c hc
        refine ⟨g1, fun u hu => ?_, fun ha η => ?_, fun hb η => ?_⟩
        · simp only [List.mem_cons, not_or] at hu
          rw [g2 u hu.2, CX.T.get_set_ne _ _ _ _ _ hu.1]
        · obtain ⟨η', k1, k2, k3⟩ := g3 ha η
          refine ⟨η', k1, k2, fun u z hu hz => ?_⟩
          by_cases hur : u ∈ r
          · exact k3 u z hur hz
          · have : u = t := by simpa [hur] using hu
            subst this
            have := last _ c hc z hz hur
            cases this
            exact ⟨SV.lt_le (ha u x hxa) (Nat.le_trans hc g1), x, hxa, SV.val_ag k1 (SV.lt_le (ha u x hxa) hc)⟩
        · obtain ⟨η', k1, k2, k3⟩ := g4 hb η
          refine ⟨η', k1, k2, fun u z hu hz => ?_⟩
          by_cases hur : u ∈ r
          · exact k3 u z hur hz
          · have : u = t := by simpa [hur] using hu
            subst this
            have := last _ c hc z hz hur
            cases this
            exact ⟨SV.lt_le (hb u x hyb) (Nat.le_trans hc g1), x, hyb, SV.val_ag k1 (SV.lt_le (hb u x hyb) hc)⟩
      · obtain ⟨g1, g2, g3, g4⟩ := ih (fr.set deep t (some (.s c))) (c + 1) (by omega)
        refine ⟨by dsimp only; omega, fun u hu => ?_, fun ha η => ?_, fun hb η => ?_⟩
        · simp only [List.mem_cons, not_or] at hu
          dsimp only
          rw [g2 u hu.2, CX.T.get_set_ne _ _ _ _ _ hu.1]
        · obtain ⟨η', k1, k2, k3⟩ := g3 ha (upd η c (x.val η))
          have hag := Ag.upd c η c (x.val η) (Nat.le_refl _)
          refine ⟨η', hag.trans k1 (by omega), fun w Q h => k2 w Q h, fun u z hu hz => ?_⟩
          dsimp only at hz
          by_cases hur : u ∈ r
          · obtain ⟨m1, y', m2, m3⟩ := k3 u z hur hz
            exact ⟨m1, y', m2, by rw [m3, SV.val_ag hag (SV.lt_le (ha u y' m2) hc)]⟩
          · have : u = t := by simpa [hur] using hu
            subst this
            have := last _ (c + 1) (by omega) z hz hur
            cases this
            refine ⟨(show c < _ by dsimp only; omega), x, hxa, ?_⟩
            show η' c = _
            rw [k1 c (by omega)]; simp [upd]
        · obtain ⟨η', k1, k2, k3⟩ := g4 hb (upd η c (y.val η))
          have hag := Ag.upd c η c (y.val η) (Nat.le_refl _)
          refine ⟨η', hag.trans k1 (by omega), fun w Q h => k2 w Q h, fun u z hu hz => ?_⟩
          dsimp only at hz
          by_cases hur : u ∈ r
          · obtain ⟨m1, y', m2, m3⟩ := k3 u z hur hz
            exact ⟨m1, y', m2, by rw [m3, SV.val_ag hag (SV.lt_le (hb u y' m2) hc)]⟩
          · have : u = t := by simpa [hur] using hu
            subst this
            have := last _ (c + 1) (by omega) z hz hur
            cases this
            refine ⟨(show c < _ by dsimp only; omega), y, hyb, ?_⟩
            show η' c = _
            rw [k1 c (by omega)]; simp [upd]
    · obtain ⟨g1, g2, g3, g4⟩ := ih (fr.set deep t none) c hc
      refine ⟨g1, fun u hu => ?_, fun ha η => ?_, fun hb η => ?_⟩
      · simp only [List.mem_cons, not_or] at hu
        rw [g2 u hu.2, CX.T.get_set_ne _ _ _ _ _ hu.1]
      · obtain ⟨η', k1, k2, k3⟩ := g3 ha η
        refine ⟨η', k1, k2, fun u z hu hz => ?_⟩
        by_cases hur : u ∈ r
        · exact k3 u z hur hz
        · have : u = t := by simpa [hur] using hu
          subst this
          have := last _ c hc z hz hur
          cases this
      · obtain ⟨η', k1, k2, k3⟩ := g4 hb η
        refine ⟨η', k1, k2, fun u z hu hz => ?_⟩
        by_cases hur : u ∈ r
        · exact k3 u z hur hz
        · have : u = t := by simpa [hur] using hu
          subst this
          have := last _ c hc z hz hur
          cases this

/-! Loops. -/
theorem head_ok : ∀ (l : List Tmp) (st : BS), st.cnt ≤ (head l st).2.1.cnt ∧ (head l st).2.1.known = st.known ∧ (∀ t n, (t, n) ∈ (head l st).2.2 → st.cnt ≤ n ∧ n < (head l st).2.1.cnt) ∧
    ((head l st).2.2.map (·.2)).Pairwise (· < ·) ∧ (∀ t, t ∉ l → (head l st).2.1.fr.get deep t = st.fr.get deep t) ∧
    (∀ t x, (head l st).2.1.fr.get deep t = some x → (∃ n, (t, n) ∈ (head l st).2.2 ∧ x = .s n) ∨ (t ∉ l ∧ st.fr.get deep t = some x)) ∧
    ∀ (η : Nat → Value) (a : Act), FR nt st η a → ∃ η', Ag st.cnt η η' ∧ (∀ (w : World) (Q : Out → (Nat → Value) → World → Prop), (head l st).1.wp P Q η w → Q .nrm η' w) ∧ FR nt (head l st).2.1 η' a := by
  intro l
  induction l with
  | nil => intro st; exact ⟨Nat.le_refl _, rfl, fun t n h => by simp [head] at h, by simp [head], fun _ _ => rfl, fun t x h => .inr ⟨by simp, h⟩, fun η a hf => ⟨η, Ag.refl _ _, fun w Q h => h, hf⟩⟩
  | cons t r ih =>
    intro st
    simp only [head]
    split
    · rename_i x hx
      obtain ⟨g1, g2, g3, g4, g7, g5, g6⟩ := ih { st with fr := st.fr.set deep t (some (.s st.cnt)), cnt := st.cnt + 1 }
      dsimp only at *
      refine ⟨by omega, g2, fun u n h => ?_, ?_, fun u hu => ?_, fun u z hz => ?_, fun η a hf => ?_⟩
      · rcases List.mem_cons.1 h with h | h
        · cases h; omega
        · have := g3 u n h; omega
      · simp only [List.map_cons, List.pairwise_cons]
        refine ⟨fun n hn => ?_, g4⟩
        obtain ⟨⟨u, m⟩, hm, rfl⟩ := List.mem_map.1 hn
        have := g3 u m hm; dsimp only; omega
      · simp only [List.mem_cons, not_or] at hu
        rw [g7 u hu.2, CX.T.get_set_ne _ _ _ _ _ hu.1]
      · rcases g5 u z hz with ⟨n, h1, h2⟩ | ⟨h1, h2⟩
        · exact .inl ⟨n, List.mem_cons_of_mem _ h1, h2⟩
        · rcases CX.T.get_set _ _ _ _ _ _ h2 with ⟨rfl, h3⟩ | ⟨h3, h4⟩
          · cases h3; exact .inl ⟨st.cnt, by simp, rfl⟩
          · exact .inr ⟨by simp [h1, h3], h4⟩
      · have hag := Ag.upd st.cnt η st.cnt (x.val η) (Nat.le_refl _)
        have hf1 : FR nt { st with fr := st.fr.set deep t (some (.s st.cnt)), cnt := st.cnt + 1 } (upd η st.cnt (x.val η)) a := by
          refine ⟨hf.defers, hf.size, fun u z hz => ?_, fun n hn => ?_⟩
          · rcases CX.T.get_set _ _ _ _ _ _ hz with ⟨rfl, h3⟩ | ⟨h3, h4⟩
            · cases h3
              exact ⟨Nat.lt_succ_self _, by simp [SV.val, upd, (hf.get u x hx).2]⟩
            · obtain ⟨k1, k2⟩ := hf.get u z h4
              exact ⟨SV.lt_le k1 (by dsimp only; omega), by rw [SV.val_ag hag k1]; exact k2⟩
          · obtain ⟨k1, ad, k2⟩ := hf.known n hn
            exact ⟨by dsimp only; omega, ad, by rw [hag n k1]; exact k2⟩
        obtain ⟨η', k1, k2, k3⟩ := g6 _ a hf1
        exact ⟨η', hag.trans k1 (by omega), fun w Q h => k2 w Q h, k3⟩
    · rename_i hx
      obtain ⟨g1, g2, g3, g4, g7, g5, g6⟩ := ih st
      refine ⟨g1, g2, g3, g4, fun u hu => g7 u (fun h => hu (List.mem_cons_of_mem _ h)), fun u z hz => ?_, g6⟩
      rcases g5 u z hz with h | ⟨h1, h2⟩
      · exact .inl h
      · refine .inr ⟨?_, h2⟩
        intro h
        rcases List.mem_cons.1 h with rfl | h
        · rw [hx] at h2; cases h2
        · exact h1 h

theorem tail1_ok (fr : T SV) (c0 : Nat) : ∀ (prs : List (Tmp × Nat)) (c : Nat) (p : Prog) (qs : List (Nat × Nat)) (c' : Nat), tail1 fr prs c = some (p, qs, c') → c0 ≤ c → (prs.map (·.2)).Pairwise (· < ·) →
    c ≤ c' ∧ (qs.map (·.1)).Sublist (prs.map (·.2)) ∧ (∀ n k, (n, k) ∈ qs → c ≤ k) ∧
    ((∀ t x, fr.get deep t = some x → x.lt c0) → ∀ η : Nat → Value, ∃ η', Ag c η η' ∧ (∀ (w : World) (Q : Out → (Nat → Value) → World → Prop), p.wp P Q η w → Q .nrm η' w) ∧
      ∀ t n, (t, n) ∈ prs → ∃ y, fr.get deep t = some y ∧ ((∃ k, (n, k) ∈ qs ∧ η' k = y.val η) ∨ (y = .s n ∧ n ∉ qs.map (·.1)))) := by
  intro prs
  induction prs with
  | nil =>
    intro c p qs c' h hc _
    simp only [tail1, Option.some.injEq, Prod.mk.injEq] at h
    obtain ⟨rfl, rfl, rfl⟩ := h
    exact ⟨Nat.le_refl _, by simp, fun n k h => by simp at h, fun _ η => ⟨η, Ag.refl _ _, fun w Q h => h, fun t n h => by simp at h⟩⟩
  | cons x r ih =>
    intro c p qs c' h hc hp
    obtain ⟨t, n⟩ := x
    simp only [List.map_cons, List.pairwise_cons] at hp
    simp only [tail1] at h
    split at h
    · rename_i x hx
      split at h
      · rename_i hs
        obtain ⟨g1, g2, g3, g4⟩ := ih c p qs c' h hc hp.2
        refine ⟨g1, List.Sublist.cons _ g2, g3, fun hfr η => ?_⟩
        obtain ⟨η', k1, k2, k3⟩ := g4 hfr η
        refine ⟨η', k1, k2, fun u m hm => ?_⟩
        rcases List.mem_cons.1 hm with h1 | h1
        · cases h1
          exact ⟨x, hx, .inr ⟨SV.same_eq hs, fun hn => Nat.lt_irrefl _ (hp.1 _ (g2.subset hn))⟩⟩
        · exact k3 u m h1
      · simp only [Option.map_eq_some_iff, Prod.mk.injEq] at h
        obtain ⟨⟨p', qs', c''⟩, h1, rfl, rfl, rfl⟩ := h
        obtain ⟨g1, g2, g3, g4⟩ := ih (c + 1) p' qs' c'' h1 (by omega) hp.2
        dsimp only
        refine ⟨by omega, ?_, fun m k hm => ?_, fun hfr η => ?_⟩
        · simp only [List.map_cons]; exact List.Sublist.cons_cons _ g2
        · rcases List.mem_cons.1 hm with h2 | h2
          · cases h2; omega
          · have := g3 m k h2; omega
        · have hag := Ag.upd c η c (x.val η) (Nat.le_refl _)
          obtain ⟨η', k1, k2, k3⟩ := g4 hfr (upd η c (x.val η))
          refine ⟨η', hag.trans k1 (by omega), fun w Q h => k2 w Q h, fun u m hm => ?_⟩
          rcases List.mem_cons.1 hm with h2 | h2
          · cases h2
            exact ⟨x, hx, .inl ⟨c, by simp, by rw [k1 c (by omega)]; simp [upd]⟩⟩
          · obtain ⟨y, m1, m2⟩ := k3 u m h2
            refine ⟨y, m1, ?_⟩
            rcases m2 with ⟨k, m2, m3⟩ | ⟨m2, m3⟩
            · exact .inl ⟨k, List.mem_cons_of_mem _ m2, by rw [m3, SV.val_ag hag (SV.lt_le (hfr u y m1) hc)]⟩
            · refine .inr ⟨m2, ?_⟩
              simp only [List.map_cons, List.mem_cons, not_or]
              exact ⟨fun he => by subst he; exact Nat.lt_irrefl _ (hp.1 m (List.mem_map.2 ⟨(u, m), h2, rfl⟩)), m3⟩
    · cases h

theorem tail2_ok : ∀ (qs : List (Nat × Nat)) (c : Nat), (qs.map (·.1)).Pairwise (· < ·) → (∀ n k, (n, k) ∈ qs → n < c ∧ c ≤ k) → ∀ η : Nat → Value, ∃ η',
    (∀ (w : World) (Q : Out → (Nat → Value) → World → Prop), (tail2 qs).wp P Q η w → Q .nrm η' w) ∧ (∀ n k, (n, k) ∈ qs → η' n = η k) ∧ (∀ m, m ∉ qs.map (·.1) → η' m = η m) := by
  intro qs
  induction qs with
  | nil => intro c _ _ η; exact ⟨η, fun w Q h => h, fun n k h => by simp at h, fun m _ => rfl⟩
  | cons x r ih =>
    intro c hp hk η
    obtain ⟨n, k⟩ := x
    simp only [List.map_cons, List.pairwise_cons] at hp
    have hnk := hk n k (by simp)
    obtain ⟨η', k1, k2, k3⟩ := ih c hp.2 (fun m j h => hk m j (by simp [h])) (upd η n (η k))
    refine ⟨η', fun w Q h => k1 w Q h, fun m j hm => ?_, fun m hm => ?_⟩
    · rcases List.mem_cons.1 hm with h | h
      · cases h
        rw [k3 n (fun hn => by have := hp.1 n hn; omega)]
        simp [upd]
      · rw [k2 m j h]
        have := hk m j (by simp [h])
        unfold upd
        rw [if_neg (by omega)]
    · simp only [List.map_cons, List.mem_cons, not_or] at hm
      rw [k3 m hm.2]
      unfold upd
      rw [if_neg hm.1]

end
end Go.Lx

/- Regions taken apart at guards that are known when the program runs. -/
namespace Go.Lx
open Go.CX (T deep pureRun fieldOffT)

section
variable {P : Program} {nt : Nat}

theorem merged {st : BS} {η : Nat → Value} {a : Act} (hf : FR nt st η a) {sa : BS} {η' : Nat → Value} {a' : Act} (hfa : FR nt sa η' a') (hag : Ag st.cnt η η') {l : List Tmp} {fr' : T SV} {c c' : Nat} {p : Prog}
    (hs : Side P sa.fr l p fr' c c') (hc : sa.cnt ≤ c) (hcc : c ≤ c') (hst : st.cnt ≤ c) (hfr : ∀ t, t ∉ l → fr'.get deep t = sa.fr.get deep t) {Q : Out → (Nat → Value) → World → Prop} {w : World} (hw : p.wp P Q η' w) :
    ∃ η'', Ag st.cnt η η'' ∧ Q .nrm η'' w ∧ FR nt { fr := fr', cnt := c', known := st.known } η'' a' := by
  obtain ⟨η'', k1, k2, k3⟩ := hs η'
  refine ⟨η'', hag.trans k1 hst, k2 w Q hw, hfa.defers, hfa.size, fun t x hx => ?_, fun n hn => ?_⟩
  · by_cases ht : t ∈ l
    · obtain ⟨m1, y, m2, m3⟩ := k3 t x ht hx
      exact ⟨m1, by rw [m3]; exact (hfa.get t y m2).2⟩
    · have hx' : sa.fr.get deep t = some x := by rw [← hfr t ht]; exact hx
      obtain ⟨m1, m2⟩ := hfa.get t x hx'
      have m3 : x.lt c := SV.lt_le m1 hc
      exact ⟨SV.lt_le m3 hcc, by rw [SV.val_ag k1 m3]; exact m2⟩
  · obtain ⟨m1, ad, m2⟩ := hf.known n hn
    have m1' : n < st.cnt := m1
    exact ⟨(by dsimp only; omega), ad, by rw [k1 n (by omega), hag n m1, m2]⟩


theorem oneB_ok {o : Oper} {st st' : BS} {p : Prog} {b : Bool} (hb : oneB P o st b = some (p, st')) (hd : CX.dstOk nt o.dst = true) : st.cnt ≤ st'.cnt ∧ (∀ t, o.dst ≠ some t → st'.fr.get deep t = st.fr.get deep t) ∧
    ∀ {η : Nat → Value} {a : Act} {w : World} {QP : Out → (Nat → Value) → World → Prop} {K : Act → World → Prop} {Q : Exit → Act → World → Prop}, FR nt st η a → p.wp P QP η w →
      (∀ η' a' w', FR nt st' η' a' → Ag st.cnt η η' → QP .nrm η' w' → K a' w') → if b then o.wp P a w K Q else K (a.put o.dst undef) w := by
  unfold oneB at hb
  cases b with
  | true =>
    simp only [if_true] at hb ⊢
    exact opB_ok hb hd
  | false =>
    simp only [Bool.false_eq_true, if_false, Option.some.injEq, Prod.mk.injEq] at hb ⊢
    obtain ⟨rfl, rfl⟩ := hb
    have hc : (putS st o.dst (some (.k undef))).cnt = st.cnt := by unfold putS; cases o.dst <;> rfl
    have hst : ({ putS st o.dst (some (.k undef)) with cnt := st.cnt, known := st.known } : BS) = putS st o.dst (some (.k undef)) := by unfold putS; cases o.dst <;> rfl
    refine ⟨by omega, fun t ht => ?_, fun {η a w QP K Q} hf hp hk => ?_⟩
    · unfold putS
      cases hdst : o.dst with
      | none => rfl
      | some d => exact CX.T.get_set_ne _ _ _ _ _ (fun e => ht (by rw [hdst, e]))
    · have hf' := hf.put (Ag.refl _ _) hd (x := some (.k undef)) (v := undef) (Nat.le_refl _) (fun n hn => .inl hn) (fun y hy => by cases hy; exact ⟨trivial, rfl⟩)
      rw [hst] at hf'
      exact hk η _ w hf' (Ag.refl _ _) hp

theorem FR.knows {st : BS} {η : Nat → Value} {a : Act} (hf : FR nt st η a) {d : Tmp} {n : Nat} {t : Bool} (hg : st.fr.get deep d = some (.s n)) (ht : η n = .bool t) : FR nt (st.knows d t) η a := by
  refine ⟨hf.defers, hf.size, fun m x hx => ?_, hf.known⟩
  rcases CX.T.get_set _ _ _ _ _ _ hx with ⟨rfl, h2⟩ | ⟨h1, h2⟩
  · cases h2
    obtain ⟨_, h3⟩ := hf.get m _ hg
    refine ⟨trivial, ?_⟩
    rw [h3]
    simp [SV.val, ht]
  · exact hf.get m x h2

theorem guardF_val {ops : Array Oper} {st : BS} {o : Oper} {d : Tmp} {n : Nat} {want : Bool} (hg : guardF ops st.fr o = some (d, n, want)) :
    st.fr.get deep d = some (.s n) ∧ d ∈ dstsO ops ∧ ∀ {η : Nat → Value} {a : Act} {t : Bool}, FR nt st η a → η n = .bool t → Region.wanted o (yielded ops a.tmps) = (t == want) := by
  unfold guardF at hg
  split at hg
  · rename_i j want' h
    split at hg
    · rename_i d' hd
      split at hg
      · rename_i n' hn
        cases hg
        refine ⟨hn, ?_, fun {η a t} hf ht => ?_⟩
        · simp only [Option.bind_eq_some_iff] at hd
          obtain ⟨oj, h1, h2⟩ := hd
          exact List.mem_filterMap.2 ⟨oj, by simpa using Array.mem_of_getElem? h1, h2⟩
        · unfold Region.wanted
          rw [h]
          simp only [yielded, hd, Option.bind_some]
          obtain ⟨_, hv⟩ := hf.get d _ hn
          rw [hv]
          simp only [SV.val, ht]
          cases t <;> cases want <;> rfl
      · cases hg
    · cases hg
  · cases hg

/-- A fork's two ends made one. -/
theorem fork_ok {st : BS} {l : List Tmp} {x : SV} {pa pb : Prog × BS} (ha : st.cnt ≤ pa.2.cnt) (hab : pa.2.cnt ≤ pb.2.cnt) (fa : ∀ t, t ∉ l → pa.2.fr.get deep t = st.fr.get deep t) (fb : ∀ t, t ∉ l → pb.2.fr.get deep t = st.fr.get deep t) :
    st.cnt ≤ (forkB st.fr l pb.2.cnt st.known x pa pb).2.cnt ∧ (∀ t, t ∉ l → (forkB st.fr l pb.2.cnt st.known x pa pb).2.fr.get deep t = st.fr.get deep t) ∧
    ∀ {η : Nat → Value} {a : Act} {w : World} {QP : Out → (Nat → Value) → World → Prop}, FR nt st η a → (forkB st.fr l pb.2.cnt st.known x pa pb).1.wp P QP η w →
      ∃ (t : Bool) (R : Out → (Nat → Value) → World → Prop), x.val η = .bool t ∧ (if t then pa.1 else pb.1).wp P R η w ∧
        ∀ η' a' w', FR nt (if t then pa.2 else pb.2) η' a' → Ag st.cnt η η' → R .nrm η' w' → ∃ η'', FR nt (forkB st.fr l pb.2.cnt st.known x pa pb).2 η'' a' ∧ Ag st.cnt η η'' ∧ QP .nrm η'' w' := by
  obtain ⟨m1, m2, m3, m4⟩ := merge_ok (P := P) pa.2.fr pb.2.fr pb.2.cnt l st.fr pb.2.cnt (Nat.le_refl _)
  refine ⟨by simp only [forkB]; omega, fun t ht => m2 t ht, fun {η a w QP} hf hp => ?_⟩
  obtain ⟨t, h1, h2, h3⟩ := hp
  cases t with
  | true =>
    refine ⟨true, _, h1, Prog.wp_app _ _ _ _ _ (h2 rfl), fun η' a' w' hf' hag hr => ?_⟩
    simp only [if_true] at hf'
    obtain ⟨η'', k1, k2, k3⟩ := merged hf hf' hag (m3 (fun t x hx => SV.lt_le (hf'.get t x hx).1 hab)) hab m1 (by omega) (fun t ht => by rw [m2 t ht, fa t ht]) hr
    exact ⟨η'', k3, k1, k2⟩
  | false =>
    refine ⟨false, _, h1, Prog.wp_app _ _ _ _ _ (h3 rfl), fun η' a' w' hf' hag hr => ?_⟩
    simp only [Bool.false_eq_true, if_false] at hf'
    obtain ⟨η'', k1, k2, k3⟩ := merged hf hf' hag (m4 (fun t x hx => (hf'.get t x hx).1)) (Nat.le_refl _) m1 (by omega) (fun t ht => by rw [m2 t ht, fb t ht]) hr
    exact ⟨η'', k3, k1, k2⟩

theorem dst_mem {ops : Array Oper} {o : Oper} (h : o ∈ ops.toList) {t : Tmp} (ht : t ∉ dstsO ops) : o.dst ≠ some t := fun e => ht (List.mem_filterMap.2 ⟨o, h, e⟩)

theorem knows_get {st : BS} {d t : Tmp} {b : Bool} (h : t ≠ d) : (st.knows d b).fr.get deep t = st.fr.get deep t := CX.T.get_set_ne _ _ _ _ _ (fun e => h e)

theorem opsT_ok {ops : Array Oper} : ∀ (l : List Oper) (st st' : BS) (p : Prog), (∀ o ∈ l, o ∈ ops.toList) → opsT P nt ops l st = some (p, st') → st.cnt ≤ st'.cnt ∧ (∀ t, t ∉ dstsO ops → st'.fr.get deep t = st.fr.get deep t) ∧
    ∀ {η : Nat → Value} {a : Act} {w : World} {QP : Out → (Nat → Value) → World → Prop} {Q : Exit → Act → World → Prop}, FR nt st η a → p.wp P QP η w →
      (∀ η' a' w', FR nt st' η' a' → Ag st.cnt η η' → QP .nrm η' w' → Q .normal a' w') → wpList P ops Q l a w := by
  intro l
  induction l with
  | nil =>
    intro st st' p _ hb
    simp only [opsT, Option.some.injEq, Prod.mk.injEq] at hb
    obtain ⟨rfl, rfl⟩ := hb
    exact ⟨Nat.le_refl _, fun _ _ => rfl, fun {η a w QP Q} hf hp hq => hq η a w hf (Ag.refl _ _) hp⟩
  | cons o r ih =>
    intro st st' p hl hb
    have ho := hl o (by simp)
    have hr := fun o' (h : o' ∈ r) => hl o' (by simp [h])
    simp only [opsT] at hb
    -- an operation whose guard is known, and the rest
    have step : ∀ (st st2 : BS) (b : Bool) (p1 q1 : Prog × BS), CX.dstOk nt o.dst = true → oneB P o st b = some p1 → opsT P nt ops r p1.2 = some q1 →
        st.cnt ≤ q1.2.cnt ∧ (∀ t, t ∉ dstsO ops → q1.2.fr.get deep t = st.fr.get deep t) ∧
        ∀ {η : Nat → Value} {a : Act} {w : World} {QP : Out → (Nat → Value) → World → Prop} {Q : Exit → Act → World → Prop}, Region.wanted o (yielded ops a.tmps) = b → FR nt st η a → (p1.1.app q1.1).wp P QP η w →
          (∀ η' a' w', FR nt q1.2 η' a' → Ag st.cnt η η' → QP .nrm η' w' → Q .normal a' w') → wpList P ops Q (o :: r) a w := by
      intro st st2 b p1 q1 hd h1 h2
      obtain ⟨g1, g2, g3⟩ := oneB_ok (nt := nt) h1 hd
      obtain ⟨k1, k2, k3⟩ := ih _ _ _ hr h2
      refine ⟨Nat.le_trans g1 k1, fun t ht => by rw [k2 t ht, g2 t (dst_mem ho ht)], fun {η a w QP Q} hw hf hp hq => ?_⟩
      have := g3 (K := wpList P ops Q r) (Q := Q) hf (Prog.wp_app _ _ _ _ _ hp) (fun η' a' w' hf' hag hq' =>
        k3 hf' hq' fun η'' a'' w'' hf'' hag' hq'' => hq η'' a'' w'' hf'' (hag.trans hag' g1) hq'')
      unfold wpList
      rw [hw]
      cases b with
      | true => exact .inl this
      | false => exact this
    split at hb
    · rename_i hd
      split at hb
      · rename_i b hg
        simp only [Option.bind_eq_some_iff, Option.map_eq_some_iff] at hb
        obtain ⟨p1, h1, q1, h2, e⟩ := hb
        cases e
        obtain ⟨k1, k2, k3⟩ := step st st b p1 q1 hd h1 h2
        exact ⟨k1, k2, fun {η a w QP Q} hf hp hq => k3 (guardB_val hf hg) hf hp hq⟩
      · simp only [Option.bind_eq_some_iff, Option.map_eq_some_iff] at hb
        obtain ⟨⟨d, n, want⟩, hg, p1, h1, q1, h2, p2, h3, q2, h4, e⟩ := hb
        dsimp only at *
        obtain ⟨gd, gm, gw⟩ := guardF_val (nt := nt) hg
        obtain ⟨a1, a2, a3⟩ := step _ st _ p1 q1 hd h1 h2
        obtain ⟨b1, b2, b3⟩ := step _ st _ p2 q2 hd h3 h4
        have a1 : st.cnt ≤ q1.2.cnt := a1
        have b1 : q1.2.cnt ≤ q2.2.cnt := b1
        have hne : ∀ t, t ∉ dstsO ops → t ≠ d := fun t ht e => ht (e ▸ gm)
        obtain ⟨f1, f2, f3⟩ := fork_ok (P := P) (nt := nt) (st := st) (l := dstsO ops) (x := .s n) (pa := (p1.1.app q1.1, q1.2)) (pb := (p2.1.app q2.1, q2.2)) a1 b1
          (fun t ht => by rw [a2 t ht]; exact knows_get (hne t ht)) (fun t ht => by rw [b2 t ht]; exact knows_get (hne t ht))
        rw [e] at f1 f2 f3
        refine ⟨f1, f2, fun {η a w QP Q} hf hp hq => ?_⟩
        obtain ⟨t, R, t1, t2, t3⟩ := f3 hf hp
        have hw := gw hf t1
        cases t with
        | true =>
          refine a3 hw (hf.knows gd t1) t2 fun η' a' w' hf' hag hr' => ?_
          obtain ⟨η'', u1, u2, u3⟩ := t3 η' a' w' hf' hag hr'
          exact hq η'' a' w' u1 u2 u3
        | false =>
          have hf2 : FR nt { (st.knows d false) with cnt := q1.2.cnt } η a := (hf.knows gd t1).mono a1
          refine b3 hw hf2 t2 fun η' a' w' hf' hag hr' => ?_
          obtain ⟨η'', u1, u2, u3⟩ := t3 η' a' w' hf' (fun m hm => hag m (Nat.lt_of_lt_of_le hm a1)) hr'
          exact hq η'' a' w' u1 u2 u3
    · cases hb

end
end Go.Lx

/- Regions in whatever order, with a condition on the world that hangs on what has been done: an operation that only looks may be taken first where what it finds stays till it is done. -/
namespace Go.Lx

section
variable {P : Program} {ops : Array Oper} {Q : Exit → Act → World → Prop} {md : Region.Mode}

/-- Whatever order is picked from here on, and the condition holds behind every operation. -/
def wpAnyS (P : Program) (md : Region.Mode) (ops : Array Oper) (Q : Exit → Act → World → Prop) (S : Array Bool → World → Prop) : Nat → Array Bool → Act → World → Prop
  | 0, listed, a, w => Region.ready md ops listed = [] ∧ Q .normal a w
  | fuel + 1, listed, a, w =>
    (Region.ready md ops listed = [] → Q .normal a w) ∧
    ∀ i ∈ Region.ready md ops listed, wpOp P ops Q i (fun a' w' => S (listed.setIfInBounds i true) w' ∧ wpAnyS P md ops Q S fuel (listed.setIfInBounds i true) a' w') a w

theorem wpAny_of_S {S : Array Bool → World → Prop} : ∀ (fuel : Nat) (listed : Array Bool) (a : Act) (w : World), wpAnyS P md ops Q S fuel listed a w → wpAny P md ops Q fuel listed a w
  | 0, _, _, _, h => h
  | fuel + 1, _, _, _, h => ⟨h.1, fun i hi => wpOp_mono (fun a' w' h' => wpAny_of_S fuel _ a' w' h'.2) (h.2 i hi)⟩

/-- What is done waits for nothing. -/
def Closed (md : Region.Mode) (ops : Array Oper) (L : Array Bool) : Prop := ∀ j o, ops[j]? = some o → L.getD j false = true → ∀ e ∈ o.after, Region.binds md e = true → L.getD e.on false = true

theorem getD_set {L : Array Bool} {i j : Nat} (h : (L.setIfInBounds i true).getD j false = true) : j = i ∨ L.getD j false = true := by
  by_cases hij : i = j
  · exact .inl hij.symm
  · rw [getD_set_ne false hij] at h; exact .inr h

theorem ready_lt {L : Array Bool} {i : Nat} (h : i ∈ Region.ready md ops L) : i < L.size := by
  have h0 := (mem_ready.1 h).1
  rcases Nat.lt_or_ge i L.size with h' | h'
  · exact h'
  · simp [Array.getElem?_eq_none h'] at h0

theorem getD_set_self {L : Array Bool} {i : Nat} (h : i < L.size) : (L.setIfInBounds i true).getD i false = true := by simp [h]

theorem Closed.step {L : Array Bool} {i : Nat} (h : Closed md ops L) (hi : i ∈ Region.ready md ops L) : Closed md ops (L.setIfInBounds i true) := by
  intro j o hj hL e he hb
  rcases getD_set hL with rfl | hL
  · obtain ⟨_, o', ho', hall⟩ := mem_ready.1 hi
    rw [hj] at ho'; cases ho'
    exact getD_set_true (hall e he hb)
  · exact getD_set_true (h j o hj hL e he hb)

theorem wpAnyS_mono {S S' : Array Bool → World → Prop} {C : Array Bool → Prop} (hC : ∀ L i, C L → C (L.setIfInBounds i true)) (h : ∀ L w, C L → S L w → S' L w) : ∀ (fuel : Nat) (listed : Array Bool) (a : Act) (w : World), C listed → wpAnyS P md ops Q S fuel listed a w → wpAnyS P md ops Q S' fuel listed a w := by
  intro fuel
  induction fuel with
  | zero => intro listed a w _ hw; exact hw
  | succ fuel ih =>
    intro listed a w hc hw
    exact ⟨hw.1, fun i hi => wpOp_mono (fun a' w' hk => ⟨h _ _ (hC _ _ hc) hk.1, ih _ _ _ (hC _ _ hc) hk.2⟩) (hw.2 i hi)⟩

/-- An operation that may come up now may be taken first. -/
theorem wpAnyS_first {S S' : Array Bool → World → Prop} {Si : World → Prop} {i : Nat} {oi : Oper} {v : Value} (hi : ops[i]? = some oi) (hsel : ∀ (j : Nat) (o : Oper) cs b, ops[j]? = some o → o.op ≠ .select cs b)
    (hQ : ∀ c a w, Q (.panic c) (a.put oi.dst v) w → Q (.panic c) a w)
    (h1 : ∀ L w, Closed md ops L → i < L.size → L.getD i true = false → S (L.setIfInBounds i true) w → Si w ∧ S' L w) (h2 : ∀ L w, L.getD i false = true → S L w → S' L w) :
    ∀ (fuel : Nat) (listed : Array Bool) (a : Act) (w : World),
      (∀ j oj, ops[j]? = some oj → j ≠ i → listed.getD j true = false → (∀ e ∈ oj.after, Region.binds md e = true → e.on ≠ i) → oi.apart ops oj = true) →
      Closed md ops listed → i ∈ Region.ready md ops listed → YieldsIf P ops Si oi v a → Si w → S (listed.setIfInBounds i true) w →
      wpAnyS P md ops Q S fuel (listed.setIfInBounds i true) (a.put oi.dst v) w → wpAnyS P md ops Q S' (fuel + 1) listed a w := by
  have hmono : ∀ (fuel : Nat) (listed : Array Bool) (a : Act) (w : World), listed.getD i false = true → wpAnyS P md ops Q S fuel listed a w → wpAnyS P md ops Q S' fuel listed a w :=
    wpAnyS_mono (C := fun L => L.getD i false = true) (fun L j h => getD_set_true h) h2
  intro fuel
  induction fuel with
  | zero =>
    intro listed a w _ hcl hr hy hSi hS H
    refine ⟨fun h => (by rw [h] at hr; cases hr), fun j hj => ?_⟩
    by_cases hji : j = i
    · subst hji
      have hl := getD_set_self (ready_lt hr)
      exact hy.wpOp hi hSi ⟨h2 _ _ hl hS, hmono _ _ _ _ hl H⟩
    · have := ready_mono hj hji
      rw [H.1] at this
      cases this
  | succ fuel ih =>
    intro listed a w hfree hcl hr hy hSi hS H
    refine ⟨fun h => (by rw [h] at hr; cases hr), fun j hj => ?_⟩
    by_cases hji : j = i
    · subst hji
      have hl := getD_set_self (ready_lt hr)
      exact hy.wpOp hi hSi ⟨h2 _ _ hl hS, hmono _ _ _ _ hl H⟩
    · have g1 := H.2 j (ready_mono hj hji)
      obtain ⟨hjun, oj, hoj, hall⟩ := mem_ready.1 hj
      have hnot : ∀ e ∈ oj.after, Region.binds md e = true → e.on ≠ i := fun e he hb heq => by
        have h1 := hall e he hb
        have h0 := (mem_ready.1 hr).1
        rw [heq] at h1
        rcases Nat.lt_or_ge i listed.size with h' | h'
        · simp [h'] at h0 h1; rw [h0] at h1; cases h1
        · simp [Array.getElem?_eq_none h'] at h1
      have g2 := wpOp_putIf hoj (hfree j oj hoj hji hjun hnot) (fun cs b => hsel i oi cs b hi) (fun cs b => hsel j oj cs b hoj) hQ hy g1
      have hfree' : ∀ k ok, ops[k]? = some ok → k ≠ i → (listed.setIfInBounds j true).getD k true = false →
          (∀ e ∈ ok.after, Region.binds md e = true → e.on ≠ i) → oi.apart ops ok = true := fun k ok hk hki hun hno => by
        refine hfree k ok hk hki ?_ hno
        by_cases hjk : j = k
        · subst hjk; exact hjun
        · rw [getD_set_ne true hjk] at hun; exact hun
      have hr' := ready_mono hr (Ne.symm hji)
      refine wpOp_mono (fun a' w' g3 => ?_) g2
      have e : (listed.setIfInBounds j true).setIfInBounds i true = (listed.setIfInBounds i true).setIfInBounds j true := Array.setIfInBounds_comm _ _ hji
      have hs' : S ((listed.setIfInBounds j true).setIfInBounds i true) w' := by rw [e]; exact g3.2.1
      obtain ⟨q1, q2⟩ := h1 _ _ (hcl.step hj) (ready_lt hr') (mem_ready.1 hr').1 hs'
      exact ⟨q2, ih (listed.setIfInBounds j true) a' w' hfree' (hcl.step hj) hr' g3.1 q1 hs' (by rw [e]; exact g3.2.2)⟩

theorem wpAnyS_take {S S' : Array Bool → World → Prop} {Si : World → Prop} {i : Nat} {oi : Oper} {v : Value} {fuel : Nat} {listed : Array Bool} {a : Act} {w : World} (hi : ops[i]? = some oi)
    (hs : Region.noSelect ops = true) (hf : Region.free md ops listed i = true) (hr : (Region.ready md ops listed).contains i = true)
    (hQ : ∀ c a w, Q (.panic c) (a.put oi.dst v) w → Q (.panic c) a w)
    (h1 : ∀ L w, Closed md ops L → i < L.size → L.getD i true = false → S (L.setIfInBounds i true) w → Si w ∧ S' L w) (h2 : ∀ L w, L.getD i false = true → S L w → S' L w)
    (hcl : Closed md ops listed) (hy : YieldsIf P ops Si oi v a) (hSi : Si w) (hS : S (listed.setIfInBounds i true) w)
    (h : wpAnyS P md ops Q S fuel (listed.setIfInBounds i true) (a.put oi.dst v) w) : wpAnyS P md ops Q S' (fuel + 1) listed a w :=
  wpAnyS_first hi (Region.noSelect_spec hs) hQ h1 h2 fuel listed a w (Region.free_spec hi hf) hcl (by simpa using hr) hy hSi hS h

theorem wpAnyS_all {S : Array Bool → World → Prop} {rs : List Nat} {fuel : Nat} {listed : Array Bool} {a : Act} {w : World} (hr : Region.ready md ops listed = rs) (hne : rs ≠ [])
    (h : ∀ i ∈ rs, wpOp P ops Q i (fun a' w' => S (listed.setIfInBounds i true) w' ∧ wpAnyS P md ops Q S fuel (listed.setIfInBounds i true) a' w') a w) : wpAnyS P md ops Q S (fuel + 1) listed a w :=
  ⟨fun h0 => absurd (hr ▸ h0) hne, hr ▸ h⟩

theorem wpAnyS_done {S : Array Bool → World → Prop} {listed : Array Bool} {a : Act} {w : World} (hr : Region.ready md ops listed = []) (h : Q .normal a w) :
    ∀ fuel, wpAnyS P md ops Q S fuel listed a w
  | 0 => ⟨hr, h⟩
  | _ + 1 => ⟨fun _ => h, by rw [hr]; simp⟩

theorem wp_region_S {S : Array Bool → World → Prop} {id : Nat} {a : Act} {w : World} (hm : P.follows .mixedOrders = true)
    (h : wpAnyS P .any ops Q S ops.size (Array.replicate ops.size false) a { w with drawn := w.drawn + 1 }) : (Code.region id ops true).wp P Q a w :=
  wp_region_any hm (wpAny_of_S _ _ _ _ h)

theorem closed_none (n : Nat) : Closed md ops (Array.replicate n false) := by
  intro j o _ h
  rw [show (Array.replicate n false).getD j false = false by simp [Array.getElem?_replicate]; split <;> rfl] at h
  cases h

/-- What reaches what has been done is done. -/
theorem reach_closed {L : Array Bool} (hc : Closed .any ops L) : ∀ (f j i : Nat), reachB ops f j i = true → L.getD j false = true → L.getD i false = true := by
  intro f
  induction f with
  | zero => intro j i h; cases h
  | succ f ih =>
    intro j i h hj
    simp only [reachB] at h
    split at h
    · rename_i o ho
      simp only [List.any_eq_true, depsB, List.mem_map, List.mem_filter] at h
      obtain ⟨d, ⟨e, ⟨he, hb⟩, rfl⟩, hd⟩ := h
      have := hc j o ho hj e (by simpa using he) hb
      simp only [Bool.or_eq_true, beq_iff_eq] at hd
      rcases hd with h | h
      · rw [← h]; exact this
      · exact ih _ _ h this
    · cases h

end
end Go.Lx

/- Regions that draw their order: operations that only look are taken first, what they gave is kept. -/
namespace Go.Lx
open Go.CX (T deep pureRun fieldOffT)

section
variable {P : Program} {nt : Nat}

/-- What an operation that only looks leaves: a value that it gives in whatever world. -/
def Still (P : Program) (nt : Nat) (o : Oper) (st st' : BS) (η : Nat → Value) (a : Act) (R : (Nat → Value) → Prop) : Prop :=
  ∃ v η', (∀ w, (execOp a.eval o).run P w = .ok (.value v) w) ∧ FR nt st' η' (a.put o.dst v) ∧ Ag st.cnt η η' ∧ R η'

theorem opB_still {o : Oper} {st st' : BS} {p : Prog} (hl : lookB o = 1) (hb : opB P o st = some (p, st')) (hd : CX.dstOk nt o.dst = true)
    {η : Nat → Value} {a : Act} {w : World} {QP : Out → (Nat → Value) → World → Prop} (hf : FR nt st η a) (hp : p.wp P QP η w) : Still P nt o st st' η a fun η' => QP .nrm η' w := by
  have same : ∀ x : Option SV, ({ putS st o.dst x with cnt := st.cnt, known := st.known } : BS) = putS st o.dst x := by intro x; unfold putS; cases o.dst <;> rfl
  have pureOp : ∀ (x : SV), x.lt st.cnt → (∀ w, (execOp a.eval o).run P w = .ok (.value (x.val η)) w) → QP .nrm η w → Still P nt o st (putS st o.dst (some x)) η a fun η' => QP .nrm η' w := by
    intro x h1 h2 hq
    refine ⟨x.val η, η, h2, ?_, Ag.refl _ _, hq⟩
    have := hf.put (Ag.refl _ _) hd (x := some x) (v := x.val η) (Nat.le_refl _) (fun n hn => .inl hn) (fun y hy => by cases hy; exact ⟨h1, rfl⟩)
    rw [same] at this
    exact this
  unfold opB at hb
  cases ho : o.op with
  | move x =>
    simp only [ho, Option.map_eq_some_iff, Prod.mk.injEq] at hb
    obtain ⟨y, hy, rfl, rfl⟩ := hb
    obtain ⟨h1, h2⟩ := evalSV_val hf hy
    exact pureOp y h1 (fun w => by rw [h2]; simp only [execOp, ho]; rfl) hp
  | assign x =>
    simp only [ho, Option.map_eq_some_iff, Prod.mk.injEq] at hb
    obtain ⟨y, hy, rfl, rfl⟩ := hb
    obtain ⟨h1, h2⟩ := evalSV_val hf hy
    exact pureOp y h1 (fun w => by rw [h2]; simp only [execOp, ho]; rfl) hp
  | pick c x y =>
    simp only [ho] at hb
    split at hb
    · rename_i hc
      simp only [Option.map_eq_some_iff, Prod.mk.injEq] at hb
      obtain ⟨z, hz, rfl, rfl⟩ := hb
      obtain ⟨h1, h2⟩ := evalSV_val hf hz
      obtain ⟨_, h3⟩ := evalSV_val hf hc
      have h3 := h3.symm
      simp only [SV.val] at h3
      exact pureOp z h1 (fun w => by simp [execOp, ho, h3, asBool, h2]) hp
    · rename_i hc
      simp only [Option.map_eq_some_iff, Prod.mk.injEq] at hb
      obtain ⟨z, hz, rfl, rfl⟩ := hb
      obtain ⟨h1, h2⟩ := evalSV_val hf hz
      obtain ⟨_, h3⟩ := evalSV_val hf hc
      have h3 := h3.symm
      simp only [SV.val] at h3
      exact pureOp z h1 (fun w => by simp [execOp, ho, h3, asBool, h2]) hp
    · rename_i m hc
      simp only [Option.bind_eq_some_iff, Option.map_eq_some_iff, Prod.mk.injEq] at hb
      obtain ⟨va, hva, vb, hvb, rfl, rfl⟩ := hb
      obtain ⟨t, ht, b1, b2⟩ := hp
      obtain ⟨hcl, hcv⟩ := evalSV_val hf hc
      obtain ⟨hal, hav⟩ := evalSV_val hf hva
      obtain ⟨hbl, hbv⟩ := evalSV_val hf hvb
      have hrun : ∀ v, (t = true → v = va.val η) → (t = false → v = vb.val η) → ∀ w, (execOp a.eval o).run P w = .ok (.value v) w := by
        intro v h1 h2 w
        have : a.eval c = .bool t := by rw [← hcv]; exact ht
        cases t with
        | true => simp [execOp, ho, this, asBool, ← hav, h1 rfl]
        | false => simp [execOp, ho, this, asBool, ← hbv, h2 rfl]
      have go : ∀ v, (t = true → v = va.val η) → (t = false → v = vb.val η) → QP .nrm (upd η st.cnt v) w → Still P nt o st { putS st o.dst (some (.s st.cnt)) with cnt := st.cnt + 1 } η a fun η' => QP .nrm η' w := by
        intro v h1 h2 hq
        have hag := Ag.upd st.cnt η st.cnt v (Nat.le_refl _)
        have hkn : (putS st o.dst (some (.s st.cnt))).known = st.known := by unfold putS; cases o.dst <;> rfl
        have hf1 := hf.put hag hd (x := some (.s st.cnt)) (v := v) (c := st.cnt + 1) (kn := st.known) (Nat.le_succ _) (fun n hn => .inl hn) (fun y hy => by
          cases hy
          exact ⟨Nat.lt_succ_self _, by simp [SV.val, upd]⟩)
        refine ⟨v, _, hrun v h1 h2, ?_, hag, hq⟩
        dsimp only
        rw [hkn]
        exact hf1
      cases t with
      | true => exact go _ (fun _ => rfl) (fun h => by cases h) (b1 rfl)
      | false => exact go _ (fun h => by cases h) (fun _ => rfl) (b2 rfl)
    · cases hb
  | fieldAddr t x f =>
    simp only [ho] at hb
    split at hb
    · rename_i n off hx
      split at hb
      · rename_i hkn
        simp only [Option.map_eq_some_iff, Prod.mk.injEq] at hb
        obtain ⟨d, hfd, rfl, rfl⟩ := hb
        obtain ⟨h1, h2⟩ := evalSV_val hf hx
        obtain ⟨_, ad, had⟩ := hf.known n (List.contains_iff_mem.1 hkn)
        refine pureOp (.q n (off + d)) h1 (fun w => ?_) hp
        simp only [SV.val, had] at h2 ⊢
        unfold fieldOffT at hfd
        split at hfd
        · rename_i fs hu
          simp only [Option.bind_eq_some_iff] at hfd
          obtain ⟨fd, hfd, m, hm, hfd'⟩ := hfd
          split at hfd'
          · cases hfd'
          · rename_i hm0
            cases hfd'
            simp only [execOp, ho, ← h2, Instr.fieldAt, Sem.run_bind, run_underlying hu, Result.andThen_ok, hfd, Instr.sureAddr, Sem.run_pure, fieldPlace, CX.run_sizeOf' hm, hm0, if_false, add_add']
        · cases hfd
      · cases hb
    · cases hb
  | nilCheck x =>
    simp only [ho] at hb
    have run : ∀ {w : World} {ad : Addr}, a.eval x = .pointer (some ad) → (execOp a.eval o).run P w = .ok (.value (.pointer (some ad))) w := by
      intro w ad h; simp only [execOp, ho, h]; rfl
    split at hb
    · rename_i n off hx
      split at hb
      · rename_i hkn
        cases hb
        obtain ⟨h1, h2⟩ := evalSV_val hf hx
        obtain ⟨_, ad, had⟩ := hf.known n (List.contains_iff_mem.1 hkn)
        refine pureOp (.q n off) h1 (fun w => ?_) hp
        simp only [SV.val, had] at h2 ⊢
        exact run h2.symm
      · cases hb
    · rename_i n hx
      split at hb
      · rename_i hkn
        cases hb
        obtain ⟨h1, h2⟩ := evalSV_val hf hx
        obtain ⟨_, ad, had⟩ := hf.known n (List.contains_iff_mem.1 hkn)
        refine pureOp (.q n 0) h1 (fun w => ?_) hp
        simp only [SV.val, had] at h2 ⊢
        simpa [Addr.add] using run (w := w) h2.symm
      · rename_i hkn
        cases hb
        obtain ⟨⟨ad, had⟩, hq⟩ := hp
        obtain ⟨hlt, h2⟩ := evalSV_val hf hx
        simp only [SV.val, had] at h2
        have hcn : (putS st o.dst (some (.q n 0))).cnt = st.cnt := by unfold putS; cases o.dst <;> rfl
        have hst : ({ putS st o.dst (some (.q n 0)) with known := n :: st.known } : BS) = { putS st o.dst (some (.q n 0)) with cnt := st.cnt, known := n :: st.known } := by rw [← hcn]
        refine ⟨.pointer (some ad), η, fun w => run h2.symm, ?_, Ag.refl _ _, hq⟩
        rw [hst]
        refine hf.put (Ag.refl _ _) hd (Nat.le_refl _) (fun m hm => ?_) ?_
        · rcases List.mem_cons.1 hm with rfl | hm
          · exact .inr ⟨hlt, ad, had⟩
          · exact .inl hm
        · intro y hy; cases hy
          exact ⟨hlt, by simp [SV.val, had, Addr.add]⟩
    · cases hb
  | _ => unfold lookB at hl; rw [ho] at hl; revert hl; simp; try (split <;> simp)

/-- What has been kept of the operations that looked. -/
def Kept (P : Program) (ls : List Look) (η : Nat → Value) (w : World) : Prop :=
  ∀ x ∈ ls, ∀ ρ : Operand → Value, x.1.op.operands.toList.map ρ = x.2.1.map (SV.val η) → (execOp ρ x.1).run P w = .ok (.value (η x.2.2)) w

def LooksLt (ls : List Look) (c : Nat) : Prop := ∀ x ∈ ls, (∀ y ∈ x.2.1, y.lt c) ∧ x.2.2 < c

theorem kept_ag {ls : List Look} {c : Nat} {η η' : Nat → Value} (hl : LooksLt ls c) (hag : Ag c η η') : Kept P ls η' = Kept P ls η := by
  funext w
  have e : ∀ x ∈ ls, x.2.1.map (SV.val η') = x.2.1.map (SV.val η) := fun x hx => List.map_congr_left fun y hy => SV.val_ag hag ((hl x hx).1 y hy)
  have e2 : ∀ x ∈ ls, η' x.2.2 = η x.2.2 := fun x hx => hag _ (hl x hx).2
  refine propext ⟨fun h x hx ρ hρ => ?_, fun h x hx ρ hρ => ?_⟩
  · rw [← e2 x hx]; exact h x hx ρ (by rw [e x hx]; exact hρ)
  · rw [e2 x hx]; exact h x hx ρ (by rw [← e x hx]; exact hρ)

theorem LooksLt.le {ls : List Look} {c c' : Nat} (h : LooksLt ls c) (hc : c ≤ c') : LooksLt ls c' := fun x hx => ⟨fun y hy => SV.lt_le ((h x hx).1 y hy) hc, Nat.lt_of_lt_of_le (h x hx).2 hc⟩

theorem keepAll_ok {QP : Out → (Nat → Value) → World → Prop} {η : Nat → Value} {w : World} {k : Prog} : ∀ {ls : List Look}, (keepAll ls k).wp P QP η w → Kept P ls η w ∧ k.wp P QP η w := by
  intro ls
  induction ls with
  | nil => intro h; exact ⟨fun x hx => by simp at hx, h⟩
  | cons x r ih =>
    intro h
    obtain ⟨o, args, n⟩ := x
    obtain ⟨h1, h2⟩ := h
    obtain ⟨k1, k2⟩ := ih h2
    refine ⟨fun x hx => ?_, k2⟩
    rcases List.mem_cons.1 hx with rfl | hx
    · exact h1
    · exact k1 x hx

theorem lookX_ok {o : Oper} {st : BS} {z : Prog × BS × List Look} (hb : lookX P o st = some z) (hl : lookB o ≠ 0) (hns : ∀ cs b, o.op ≠ .select cs b) (hd : CX.dstOk nt o.dst = true) :
    st.cnt ≤ z.2.1.cnt ∧ (∀ t, o.dst ≠ some t → z.2.1.fr.get deep t = st.fr.get deep t) ∧
    ∀ {η : Nat → Value} {a : Act} {w : World} {QP : Out → (Nat → Value) → World → Prop}, FR nt st η a → z.1.wp P QP η w →
      ∃ v η', LooksLt z.2.2 z.2.1.cnt ∧ (∀ w', Kept P z.2.2 η' w' → (execOp a.eval o).run P w' = .ok (.value v) w') ∧ Kept P z.2.2 η' w ∧ FR nt z.2.1 η' (a.put o.dst v) ∧ Ag st.cnt η η' ∧ QP .nrm η' w := by
  have keep : ∀ (x : Option SV) (t : Tmp), o.dst ≠ some t → (putS st o.dst x).fr.get deep t = st.fr.get deep t := by
    intro x t ht
    unfold putS
    cases hdst : o.dst with
    | none => rfl
    | some d => exact CX.T.get_set_ne _ _ _ _ _ (fun e => ht (by rw [hdst, e]))
  unfold lookX at hb
  split at hb
  · rename_i h1
    simp only [Option.map_eq_some_iff] at hb
    obtain ⟨⟨p, s⟩, hp, rfl⟩ := hb
    obtain ⟨g1, g2, _⟩ := opB_ok (nt := nt) hp hd
    refine ⟨g1, g2, fun {η a w QP} hf hw => ?_⟩
    obtain ⟨v, η', k1, k2, k3, k4⟩ := opB_still h1 hp hd hf hw
    exact ⟨v, η', fun x hx => by simp at hx, fun w' _ => k1 w', fun x hx => by simp at hx, k2, k3, k4⟩
  · rename_i h1
    simp only [Option.bind_eq_some_iff] at hb
    obtain ⟨args, hargs, hb⟩ := hb
    split at hb
    · rename_i v hv
      cases hb
      have hopB : ∀ {η : Nat → Value} {a : Act}, FR nt st η a → ∀ w, (execOp a.eval o).run P w = .ok (.value v) w := by
        intro η a hf w
        have hval := (evalSVs_val hf hargs).2
        generalize hops : o.op.operands.toList = ops at hval
        unfold fold at hv
        split at hv
        · rename_i op t x y yt u v' hop
          rw [hop] at hops
          simp only [Op.operands] at hops
          subst hops
          simp only [List.map_cons, List.map_nil, SV.val, List.cons.injEq, and_true] at hval
          have := CX.pureRun_run hv w
          simp only [execOp, hop, hval.1, hval.2]
          rw [Sem.run_bind, this]; rfl
        · rename_i op t x u hop
          rw [hop] at hops
          simp only [Op.operands] at hops
          subst hops
          simp only [List.map_cons, List.map_nil, SV.val, List.cons.injEq, and_true] at hval
          simp only [execOp, hop, hval, Sem.run_bind, CX.pureRun_run hv w, Result.andThen_ok, Sem.run_pure]
        · rename_i s d x u hop
          rw [hop] at hops
          simp only [Op.operands] at hops
          subst hops
          simp only [List.map_cons, List.map_nil, SV.val, List.cons.injEq, and_true] at hval
          simp only [execOp, hop, hval, Sem.run_bind, CX.pureRun_run hv w, Result.andThen_ok, Sem.run_pure]
        · cases hv
      refine ⟨by unfold putS; cases o.dst <;> exact Nat.le_refl _, keep _, fun {η a w QP} hf hw => ?_⟩
      refine ⟨v, η, fun x hx => by simp at hx, fun w' _ => hopB hf w', fun x hx => by simp at hx, ?_, Ag.refl _ _, hw⟩
      have hst : ({ putS st o.dst (some (.k v)) with cnt := st.cnt, known := st.known } : BS) = putS st o.dst (some (.k v)) := by unfold putS; cases o.dst <;> rfl
      have := hf.put (Ag.refl _ _) hd (x := some (.k v)) (v := v) (Nat.le_refl _) (fun n hn => .inl hn) (fun y hy => by cases hy; exact ⟨trivial, rfl⟩)
      rw [hst] at this
      exact this
    · -- what is told by the look alone
      have told : ∀ {η : Nat → Value} {a : Act} {w : World} {QP : Out → (Nat → Value) → World → Prop} {k : Prog}, FR nt st η a → (Prog.look o args st.cnt k).wp P QP η w →
          ∃ v, (∀ w', Kept P [(o, args, st.cnt)] (upd η st.cnt v) w' → (execOp a.eval o).run P w' = .ok (.value v) w') ∧ Kept P [(o, args, st.cnt)] (upd η st.cnt v) w ∧ k.wp P QP (upd η st.cnt v) w := by
        intro η a w QP k hf hw
        obtain ⟨hlts, hval⟩ := evalSVs_val hf hargs
        obtain ⟨v, r1, r2⟩ := hw a.eval hval
        have hag := Ag.upd st.cnt η st.cnt v (Nat.le_refl _)
        have hval' : args.map (SV.val (upd η st.cnt v)) = args.map (SV.val η) := List.map_congr_left fun y hy => SV.val_ag hag (hlts y hy)
        refine ⟨v, fun w' hk => ?_, fun x hx ρ hρ => ?_, r2⟩
        · have := hk (o, args, st.cnt) (by simp) a.eval (by rw [hval']; exact hval)
          simpa [upd] using this
        · simp only [List.mem_singleton] at hx
          subst hx
          dsimp only at hρ ⊢
          rw [hval', ← hval] at hρ
          have e : execOp ρ o = execOp a.eval o := execOp_congr o hns fun x hx => by
            have hx' : x ∈ o.op.operands.toList := by simpa using hx
            exact List.map_inj_left.1 hρ x hx'
          rw [e]
          simpa [upd] using r1
      have lts : ∀ {η : Nat → Value} {a : Act}, FR nt st η a → LooksLt [(o, args, st.cnt)] (st.cnt + 1) := by
        intro η a hf x hx
        simp only [List.mem_singleton] at hx
        subst hx
        exact ⟨fun y hy => SV.lt_le ((evalSVs_val hf hargs).1 y hy) (Nat.le_succ _), Nat.lt_succ_self _⟩
      split at hb
      · cases hb
        refine ⟨by simp, keep _, fun {η a w QP} hf hw => ?_⟩
        obtain ⟨v, r1, r2, ⟨ad, had⟩, r4⟩ := told hf hw
        have had : v = .pointer (some ad) := by simpa [upd] using had
        have hag := Ag.upd st.cnt η st.cnt v (Nat.le_refl _)
        refine ⟨v, _, lts hf, r1, r2, hf.put hag hd (by omega) (fun n hn => ?_) ?_, hag, r4⟩
        · rcases List.mem_cons.1 hn with rfl | hn
          · exact .inr ⟨by omega, ad, by simp [upd, had]⟩
          · exact .inl hn
        · intro y hy; cases hy
          refine ⟨Nat.lt_succ_self _, ?_⟩
          subst had
          simp [SV.val, upd, Addr.add]
      · cases hb
        refine ⟨by simp, keep _, fun {η a w QP} hf hw => ?_⟩
        obtain ⟨v, r1, r2, r4⟩ := told hf hw
        have hag := Ag.upd st.cnt η st.cnt v (Nat.le_refl _)
        have hkk : (putS st o.dst (some (.s st.cnt))).known = st.known := by unfold putS; cases o.dst <;> rfl
        refine ⟨v, _, lts hf, r1, r2, hf.put hag hd (by omega) (fun n hn => .inl (by rw [hkk] at hn; exact hn)) ?_, hag, r4⟩
        intro y hy; cases hy
        exact ⟨Nat.lt_succ_self _, by simp [SV.val, upd]⟩

/-- What is to stay, as long as no store has been done that waits for all that was looked at. -/
def SK (P : Program) (ops : Array Oper) (T : List Nat) (ls : List Look) (η : Nat → Value) : Array Bool → World → Prop := fun L w =>
  (∃ k ∈ T, ∀ b, L.getD b false = true → isStore ops b = true → reachB ops 12 b k = false) → Kept P ls η w

theorem look_notStore {ops : Array Oper} {i : Nat} {o : Oper} (hi : ops[i]? = some o) (hl : lookB o ≠ 0) : isStore ops i = false := by
  unfold isStore
  rw [hi]
  dsimp only
  split
  · rename_i ho
    exact (hl (by unfold lookB; rw [ho])).elim
  · rfl

/-- One step of a region that draws, its guard known. -/
theorem stepD_ok {ops : Array Oper} {listed : Array Bool} {T : List Nat} {ls : List Look} {i : Nat} {look b : Bool} {o : Oper} (hx : pickD P ops listed (Region.ready .any ops listed) = some (i, look)) (hi : ops[i]? = some o) (hs : Region.noSelect ops = true) (hd : CX.dstOk nt o.dst = true)
    {st : BS} {p : Prog × BS × List Look} {q : Prog × BS} {f : Nat} (hp : stepD P look o st b = some p) (hq0 : p.2.1.cnt ≤ q.2.cnt) (hq1 : ∀ t, t ∉ dstsO ops → q.2.fr.get deep t = p.2.1.fr.get deep t)
    (hq : ∀ {η : Nat → Value} {a : Act} {w : World} {QP : Out → (Nat → Value) → World → Prop} {Q : Exit → Act → World → Prop}, (∀ c a w, ¬ Q (.panic c) a w) → FR nt p.2.1 η a → LooksLt (nextL ops (i, look) T ls p.2.2) p.2.1.cnt → Kept P (nextL ops (i, look) T ls p.2.2) η w → Closed .any ops (listed.setIfInBounds i true) → q.1.wp P QP η w →
      (∀ η' a' w', FR nt q.2 η' a' → Ag p.2.1.cnt η η' → QP .nrm η' w' → Q .normal a' w') → wpAnyS P .any ops Q (SK P ops (nextT ops (i, look) T p.2.2) (nextL ops (i, look) T ls p.2.2) η) f (listed.setIfInBounds i true) a w) :
    st.cnt ≤ q.2.cnt ∧ (∀ t, t ∉ dstsO ops → q.2.fr.get deep t = st.fr.get deep t) ∧
    ∀ {η : Nat → Value} {a : Act} {w : World} {QP : Out → (Nat → Value) → World → Prop} {Q : Exit → Act → World → Prop}, (∀ c a w, ¬ Q (.panic c) a w) → Region.wanted o (yielded ops a.tmps) = b → FR nt st η a → LooksLt ls st.cnt → Kept P ls η w → Closed .any ops listed →
      (p.1.app (if look || barB ops i T then q.1 else keepAll ls q.1)).wp P QP η w → (∀ η' a' w', FR nt q.2 η' a' → Ag st.cnt η η' → QP .nrm η' w' → Q .normal a' w') → wpAnyS P .any ops Q (SK P ops T ls η) (f + 1) listed a w := by
  have hmem : o ∈ ops.toList := by simpa using Array.mem_of_getElem? hi
  have hns : ∀ cs b, o.op ≠ .select cs b := fun cs b => Region.noSelect_spec hs i o cs b hi
  unfold pickD at hx
  split at hx
  · rename_i i' hfind
    cases hx
    have hf1 := List.find?_some hfind
    have hf2 := List.mem_of_find?_eq_some hfind
    simp only [hi, Option.map_some, Option.getD_some, Bool.and_eq_true, bne_iff_ne] at hf1
    obtain ⟨⟨hl, -⟩, hfree⟩ := hf1
    have hnst := look_notStore hi hl
    simp only [Bool.true_or, if_true]
    have hnL : nextL ops (i, true) T ls p.2.2 = p.2.2 ++ ls := rfl
    have hnT : nextT ops (i, true) T p.2.2 = if p.2.2.isEmpty then T else i :: T := rfl
    rw [hnL, hnT] at hq
    have hcon : (Region.ready .any ops listed).contains i = true := by simpa using hf2
    -- what the taken one leaves is enough
    have step : ∀ (η η' : Nat → Value), Kept P ls η' = Kept P ls η → (∀ L w', Closed .any ops L → i < L.size → L.getD i true = false → SK P ops (if p.2.2.isEmpty then T else i :: T) (p.2.2 ++ ls) η' (L.setIfInBounds i true) w' → Kept P p.2.2 η' w' ∧ SK P ops T ls η L w') ∧
        (∀ L w', L.getD i false = true → SK P ops (if p.2.2.isEmpty then T else i :: T) (p.2.2 ++ ls) η' L w' → SK P ops T ls η L w') := by
      intro η η' he
      have cut1 : ∀ w', Kept P (p.2.2 ++ ls) η' w' → Kept P p.2.2 η' w' ∧ Kept P ls η w' := fun w' h => ⟨fun x hx => h x (by simp [hx]), by rw [← he]; exact fun x hx => h x (by simp [hx])⟩
      refine ⟨fun L w' hc hlt hL hS => ?_, fun L w' hL hS => ?_⟩
      · by_cases hemp : p.2.2.isEmpty = true
        · have hnil : p.2.2 = [] := List.isEmpty_iff.1 hemp
          rw [if_pos hemp] at hS
          refine ⟨by rw [hnil]; exact fun x hx => (by simp at hx), fun ⟨k, hk, hall⟩ => (cut1 w' (hS ⟨k, hk, fun b hb hst => ?_⟩)).2⟩
          rcases getD_set hb with rfl | hb
          · rw [hnst] at hst; cases hst
          · exact hall b hb hst
        · rw [if_neg hemp] at hS
          have := hS ⟨i, by simp, fun b hb hst => ?_⟩
          · exact ⟨(cut1 w' this).1, fun _ => (cut1 w' this).2⟩
          · rcases getD_set hb with rfl | hb
            · rw [hnst] at hst; cases hst
            · cases hr : reachB ops 12 b i with
              | false => rfl
              | true =>
                have := reach_closed hc 12 b i hr hb
                simp [hlt] at hL this
                rw [hL] at this; cases this
      · rintro ⟨k, hk, hall⟩
        refine (cut1 w' (hS ⟨k, ?_, hall⟩)).2
        split
        · exact hk
        · exact List.mem_cons_of_mem _ hk
    cases b with
    | true =>
      simp only [stepD, Bool.true_and, Bool.and_true, if_true] at hp
      obtain ⟨g1, g2, g3⟩ := lookX_ok (nt := nt) hp hl hns hd
      refine ⟨Nat.le_trans g1 hq0, fun t ht => by rw [hq1 t ht, g2 t (dst_mem hmem ht)], fun {η a w QP Q} hnp hw hf hll hk hcl hwp hQ => ?_⟩
      obtain ⟨v, η', l1, k1, k2, k3, k4, k5⟩ := g3 hf (Prog.wp_app _ _ _ _ _ hwp)
      have hll' : LooksLt (p.2.2 ++ ls) p.2.1.cnt := fun x hx => by
        rcases List.mem_append.1 hx with hx | hx
        · exact l1 x hx
        · exact hll.le g1 x hx
      have hkw : Kept P (p.2.2 ++ ls) η' w := fun x hx => by
        rcases List.mem_append.1 hx with hx | hx
        · exact k2 x hx
        · have : Kept P ls η' w := by rw [kept_ag hll k4]; exact hk
          exact this x hx
      have hrec := hq (Q := Q) hnp k3 hll' hkw (hcl.step (by simpa using hcon)) k5 (fun η'' a' w' hf' hag hq' => hQ η'' a' w' hf' (k4.trans hag g1) hq')
      obtain ⟨s1, s2⟩ := step η η' (kept_ag hll k4)
      exact wpAnyS_take hi hs hfree hcon (fun c a w h => (hnp _ _ _ h).elim) s1 s2 hcl (.inl ⟨hw, fun w' h => k1 w' h⟩) k2 (fun _ => hkw) hrec
    | false =>
      simp only [stepD, Bool.false_and, Bool.false_eq_true, if_false, Option.map_eq_some_iff] at hp
      obtain ⟨p1, hp1, rfl⟩ := hp
      obtain ⟨g1, g2, g3⟩ := oneB_ok (nt := nt) hp1 hd
      refine ⟨Nat.le_trans g1 hq0, fun t ht => by rw [hq1 t ht, g2 t (dst_mem hmem ht)], fun {η a w QP Q} hnp hw hf hll hk hcl hwp hQ => ?_⟩
      obtain ⟨η', k3, k4, k5, k6⟩ := g3 (K := fun a' w' => ∃ η', FR nt p1.2 η' a' ∧ Ag st.cnt η η' ∧ q.1.wp P QP η' w' ∧ w' = w) (Q := Q) (QP := fun o η' w' => thenP P q.1 QP o η' w' ∧ w' = w) hf (by
        have := Prog.wp_app _ _ _ _ _ hwp
        simp only [oneB, Bool.false_eq_true, if_false, Option.some.injEq] at hp1
        subst hp1
        exact ⟨this, rfl⟩) (fun η' a' w' h1 h2 h3 => ⟨η', h1, h2, h3.1, h3.2⟩)
      have hkw : Kept P ls η' w := by rw [kept_ag hll k4]; exact hk
      have hrec := hq (Q := Q) hnp k3 (by simpa using hll.le g1) (by simpa using hkw) (hcl.step (by simpa using hcon)) k5 (fun η'' a' w' hf' hag hq' => hQ η'' a' w' hf' (k4.trans hag g1) hq')
      obtain ⟨s1, s2⟩ := step η η' (kept_ag hll k4)
      exact wpAnyS_take hi hs hfree hcon (fun c a w h => (hnp _ _ _ h).elim) s1 s2 hcl (.inr ⟨hw, rfl⟩) (fun x hx => by simp at hx) (fun _ => by simpa using hkw) hrec
  · rename_i hnone
    split at hx
    · rename_i i' hone
      cases hx
      have hp' : ∃ p1, oneB P o st b = some p1 ∧ p = (p1.1, p1.2, []) := by
        simp only [stepD, Bool.and_false, Bool.false_eq_true, if_false, Option.map_eq_some_iff] at hp
        obtain ⟨p1, h1, h2⟩ := hp
        exact ⟨p1, h1, h2.symm⟩
      obtain ⟨p1, hp1, rfl⟩ := hp'
      obtain ⟨g1, g2, g3⟩ := oneB_ok (nt := nt) hp1 hd
      refine ⟨Nat.le_trans g1 hq0, fun t ht => by rw [hq1 t ht, g2 t (dst_mem hmem ht)], fun {η a w QP Q} hnp hw hf hll hk hcl hwp hQ => ?_⟩
      have hir : i ∈ Region.ready .any ops listed := by rw [hone]; simp
      have hil := getD_set_self (L := listed) (ready_lt hir)
      simp only [Bool.false_or] at hwp
      refine wpAnyS_all hone (by simp) fun j hj => ?_
      simp only [List.mem_singleton] at hj
      rw [hj]
      have main : if b then o.wp P a w (fun a' w' => SK P ops T ls η (listed.setIfInBounds i true) w' ∧ wpAnyS P .any ops Q (SK P ops T ls η) f (listed.setIfInBounds i true) a' w') Q
          else (fun a' w' => SK P ops T ls η (listed.setIfInBounds i true) w' ∧ wpAnyS P .any ops Q (SK P ops T ls η) f (listed.setIfInBounds i true) a' w') (a.put o.dst undef) w := by
        cases hbar : barB ops i T with
        | false =>
          have hnL : nextL ops (i, false) T ls ([] : List Look) = ls := by simp [nextL, hbar]
          have hnT : nextT ops (i, false) T ([] : List Look) = T := by simp [nextT, hbar]
          rw [hnL, hnT] at hq
          rw [hbar] at hwp
          simp only [Bool.false_eq_true, if_false] at hwp
          exact g3 (K := fun a' w' => SK P ops T ls η (listed.setIfInBounds i true) w' ∧ wpAnyS P .any ops Q (SK P ops T ls η) f (listed.setIfInBounds i true) a' w') (Q := Q) hf (Prog.wp_app _ _ _ _ _ hwp) (fun η' a' w' hf' hag hq' => by
            obtain ⟨m1, m2⟩ := keepAll_ok hq'
            have hrec := hq (Q := Q) hnp hf' (hll.le g1) m1 (hcl.step hir) m2 (fun η'' a'' w'' hf'' hag' hq'' => hQ η'' a'' w'' hf'' (hag.trans hag' g1) hq'')
            have hSK : SK P ops T ls η' = SK P ops T ls η := by unfold SK; rw [kept_ag hll hag]
            rw [hSK] at hrec
            rw [kept_ag hll hag] at m1
            exact ⟨fun _ => m1, hrec⟩)
        | true =>
          have hnL : nextL ops (i, false) T ls ([] : List Look) = [] := by simp [nextL, hbar]
          have hnT : nextT ops (i, false) T ([] : List Look) = [] := by simp [nextT, hbar]
          rw [hnL, hnT] at hq
          rw [hbar] at hwp
          simp only [if_true] at hwp
          unfold barB at hbar
          simp only [Bool.and_eq_true, List.all_eq_true] at hbar
          have hno : ∀ (L : Array Bool) (w' : World), L.getD i false = true → SK P ops T ls η L w' := by
            rintro L w' hL ⟨k, hk, hall⟩
            have := hall i hL hbar.1
            rw [hbar.2 k hk] at this
            cases this
          exact g3 (K := fun a' w' => SK P ops T ls η (listed.setIfInBounds i true) w' ∧ wpAnyS P .any ops Q (SK P ops T ls η) f (listed.setIfInBounds i true) a' w') (Q := Q) hf (Prog.wp_app _ _ _ _ _ hwp) (fun η' a' w' hf' hag hq' => by
            have hrec := hq (Q := Q) hnp hf' (fun x hx => by simp at hx) (fun x hx => by simp at hx) (hcl.step hir) hq' (fun η'' a'' w'' hf'' hag' hq'' => hQ η'' a'' w'' hf'' (hag.trans hag' g1) hq'')
            exact ⟨hno _ _ hil, wpAnyS_mono (C := fun L => L.getD i false = true) (fun L j h => getD_set_true h) (fun L w hL _ => hno L w hL) _ _ _ _ hil hrec⟩)
      unfold wpOp
      rw [hi]
      dsimp only
      rw [hw]
      cases b with
      | true => simp only [if_true] at main ⊢; exact .inl main
      | false => exact main
    · cases hx

/-- One operation that does something, its guard known: whatever the others are. -/
theorem effD_ok {ops : Array Oper} {listed : Array Bool} {T : List Nat} {ls : List Look} {i : Nat}
    {st : BS} {p : Prog × BS} {q : Prog × BS} {f : Nat} (hp : effD P nt ops i st = some p) (hq0 : p.2.cnt ≤ q.2.cnt) (hq1 : ∀ t, t ∉ dstsO ops → q.2.fr.get deep t = p.2.fr.get deep t)
    (hq : ∀ {η : Nat → Value} {a : Act} {w : World} {QP : Out → (Nat → Value) → World → Prop} {Q : Exit → Act → World → Prop}, (∀ c a w, ¬ Q (.panic c) a w) → FR nt p.2 η a → LooksLt ls p.2.cnt → Kept P ls η w → Closed .any ops (listed.setIfInBounds i true) → q.1.wp P QP η w →
      (∀ η' a' w', FR nt q.2 η' a' → Ag p.2.cnt η η' → QP .nrm η' w' → Q .normal a' w') → wpAnyS P .any ops Q (SK P ops T ls η) f (listed.setIfInBounds i true) a w) :
    st.cnt ≤ q.2.cnt ∧ (∀ t, t ∉ dstsO ops → q.2.fr.get deep t = st.fr.get deep t) ∧
    ∀ {η : Nat → Value} {a : Act} {w : World} {QP : Out → (Nat → Value) → World → Prop} {Q : Exit → Act → World → Prop}, (∀ c a w, ¬ Q (.panic c) a w) → FR nt st η a → LooksLt ls st.cnt → Kept P ls η w → Closed .any ops (listed.setIfInBounds i true) →
      (p.1.app (keepAll ls q.1)).wp P QP η w → (∀ η' a' w', FR nt q.2 η' a' → Ag st.cnt η η' → QP .nrm η' w' → Q .normal a' w') →
      wpOp P ops Q i (fun a' w' => SK P ops T ls η (listed.setIfInBounds i true) w' ∧ wpAnyS P .any ops Q (SK P ops T ls η) f (listed.setIfInBounds i true) a' w') a w := by
  unfold effD at hp
  simp only [Option.bind_eq_some_iff] at hp
  obtain ⟨o, hi, hp⟩ := hp
  split at hp
  · rename_i hd
    simp only [Option.bind_eq_some_iff] at hp
    obtain ⟨b, hg, hp⟩ := hp
    have hmem : o ∈ ops.toList := by simpa using Array.mem_of_getElem? hi
    obtain ⟨g1, g2, g3⟩ := oneB_ok (nt := nt) hp hd
    refine ⟨Nat.le_trans g1 hq0, fun t ht => by rw [hq1 t ht, g2 t (dst_mem hmem ht)], fun {η a w QP Q} hnp hf hll hk hcl hwp hQ => ?_⟩
    have hw := guardB_val hf hg
    have := g3 (K := fun a' w' => SK P ops T ls η (listed.setIfInBounds i true) w' ∧ wpAnyS P .any ops Q (SK P ops T ls η) f (listed.setIfInBounds i true) a' w') (Q := Q) hf (Prog.wp_app _ _ _ _ _ hwp) (fun η' a' w' hf' hag hq' => by
      obtain ⟨m1, m2⟩ := keepAll_ok hq'
      have hrec := hq (Q := Q) hnp hf' (hll.le g1) m1 hcl m2 (fun η'' a'' w'' hf'' hag' hq'' => hQ η'' a'' w'' hf'' (hag.trans hag' g1) hq'')
      have hSK : SK P ops T ls η' = SK P ops T ls η := by unfold SK; rw [kept_ag hll hag]
      rw [hSK] at hrec
      rw [kept_ag hll hag] at m1
      exact ⟨fun _ => m1, hrec⟩)
    unfold wpOp
    rw [hi]
    dsimp only
    rw [hw]
    cases b with
    | true => simp only [if_true] at this ⊢; exact .inl this
    | false => exact this
  · cases hp

theorem FR.again {st : BS} {η η' : Nat → Value} {a : Act} (hf : FR nt st η a) (hag : Ag st.cnt η η') : FR nt st η' a :=
  ⟨hf.defers, hf.size, fun t x hx => by
    obtain ⟨h1, h2⟩ := hf.get t x hx
    exact ⟨h1, by rw [SV.val_ag hag h1]; exact h2⟩, fun n hn => by
    obtain ⟨h1, h2⟩ := hf.known n hn
    exact ⟨h1, by rw [hag n h1]; exact h2⟩⟩

theorem know_ok {fa : T SV} : ∀ (l : List Tmp) (st : BS), (knowL fa l st).2.cnt = st.cnt ∧ (∀ t, t ∉ l → (knowL fa l st).2.fr.get deep t = st.fr.get deep t) ∧
    ∀ {η : Nat → Value} {a : Act} {w : World} {QP : Out → (Nat → Value) → World → Prop}, FR nt st η a → (chkL (knowL fa l st).1 .nil).wp P QP η w → FR nt (knowL fa l st).2 η a ∧ QP .nrm η w := by
  intro l
  induction l with
  | nil => intro st; exact ⟨rfl, fun _ _ => rfl, fun hf hw => ⟨hf, hw⟩⟩
  | cons t r ih =>
    intro st
    unfold knowL
    split
    · rename_i c n0 o0 h1 h2
      obtain ⟨g1, g2, g3⟩ := ih { st with fr := st.fr.set deep t (some (.q c 0)), known := c :: st.known }
      refine ⟨g1, fun m hm => ?_, fun {η a w QP} hf hw => ?_⟩
      · simp only [List.mem_cons, not_or] at hm
        rw [g2 m hm.2]
        exact CX.T.get_set_ne _ _ _ _ _ hm.1
      · obtain ⟨⟨ad, had⟩, hw⟩ : (∃ ad, η c = .pointer (some ad)) ∧ _ := hw
        obtain ⟨hlt, hval⟩ := hf.get t _ h1
        refine g3 ⟨hf.defers, hf.size, fun m x hx => ?_, fun n hn => ?_⟩ hw
        · rcases CX.T.get_set _ _ _ _ _ _ hx with ⟨rfl, hx2⟩ | ⟨_, hx2⟩
          · cases hx2
            refine ⟨hlt, ?_⟩
            have : SV.val η (.q c 0) = SV.val η (.s c) := by simp [SV.val, had, Addr.add]
            rw [this]; exact hval
          · exact hf.get m x hx2
        · rcases List.mem_cons.1 hn with rfl | hn
          · exact ⟨hlt, ad, had⟩
          · exact hf.known n hn
    · obtain ⟨g1, g2, g3⟩ := ih st
      exact ⟨g1, fun m hm => g2 m (fun h => hm (List.mem_cons_of_mem _ h)), g3⟩

theorem opsD_ok {ops : Array Oper} (hs : Region.noSelect ops = true) : ∀ (f : Nat) (listed : Array Bool) (T : List Nat) (ls : List Look) (st : BS) (q : Prog × BS), opsD P nt ops f listed T ls st = some q → st.cnt ≤ q.2.cnt ∧ (∀ t, t ∉ dstsO ops → q.2.fr.get deep t = st.fr.get deep t) ∧
    ∀ {η : Nat → Value} {a : Act} {w : World} {QP : Out → (Nat → Value) → World → Prop} {Q : Exit → Act → World → Prop}, (∀ c a w, ¬ Q (.panic c) a w) → FR nt st η a → LooksLt ls st.cnt → Kept P ls η w → Closed .any ops listed → q.1.wp P QP η w →
      (∀ η' a' w', FR nt q.2 η' a' → Ag st.cnt η η' → QP .nrm η' w' → Q .normal a' w') → wpAnyS P .any ops Q (SK P ops T ls η) f listed a w := by
  intro f
  induction f with
  | zero =>
    intro listed T ls st q hb
    simp only [opsD] at hb
    split at hb
    · rename_i hr
      cases hb
      exact ⟨Nat.le_refl _, fun _ _ => rfl, fun {η a w QP Q} hnp hf hll hk hcl hp hQ => wpAnyS_done hr (hQ η a w hf (Ag.refl _ _) hp) 0⟩
    · cases hb
  | succ f ih =>
    intro listed T ls st q hb
    simp only [opsD] at hb
    split at hb
    · rename_i hr
      cases hb
      exact ⟨Nat.le_refl _, fun _ _ => rfl, fun {η a w QP Q} hnp hf hll hk hcl hp hQ => wpAnyS_done hr (hQ η a w hf (Ag.refl _ _) hp) (f + 1)⟩
    · cases hpk : pickD P ops listed (Region.ready .any ops listed) with
      | none =>
        rw [hpk] at hb
        dsimp only at hb
        split at hb
        · rename_i i j hij
          simp only [Option.bind_eq_some_iff, Option.map_eq_some_iff] at hb
          obtain ⟨p1, h1, q1, h2, p2, h3, q2, h4, e⟩ := hb
          obtain ⟨i1, i2, i3⟩ := ih _ _ _ _ _ h2
          obtain ⟨j1, j2, j3⟩ := ih _ _ _ _ _ h4
          obtain ⟨a1, a2, a3⟩ := effD_ok h1 i1 i2 i3
          obtain ⟨b1, b2, b3⟩ := effD_ok h3 j1 j2 j3
          have a1 : st.cnt + 1 ≤ q1.2.cnt := a1
          have b1 : q1.2.cnt ≤ q2.2.cnt := b1
          obtain ⟨f1, f2, f3⟩ := fork_ok (P := P) (nt := nt) (st := { st with cnt := st.cnt + 1 }) (l := dstsO ops) (x := .s st.cnt) (pa := (p1.1.app (keepAll ls q1.1), q1.2)) (pb := (p2.1.app (keepAll ls q2.1), q2.2)) a1 b1
            (fun t ht => by rw [a2 t ht]) (fun t ht => by rw [b2 t ht])
          obtain ⟨y1, y2, y3⟩ := know_ok (P := P) (nt := nt) (fa := q1.2.fr) (dstsO ops) (forkB st.fr (dstsO ops) q2.2.cnt st.known (.s st.cnt) (p1.1.app (keepAll ls q1.1), q1.2) (p2.1.app (keepAll ls q2.1), q2.2)).2
          subst e
          refine ⟨by dsimp only; rw [y1]; exact Nat.le_trans (Nat.le_succ _) f1, fun t ht => by dsimp only; rw [y2 t ht]; exact f2 t ht, fun {η a w QP Q} hnp hf hll hk hcl hwp hQ => ?_⟩
          refine wpAnyS_all hij (by simp) fun m hm => ?_
          have hag : ∀ b : Bool, Ag st.cnt η (upd η st.cnt (.bool b)) := fun b => Ag.upd _ _ _ _ (Nat.le_refl _)
          have hfb : ∀ b : Bool, FR nt { st with cnt := st.cnt + 1 } (upd η st.cnt (.bool b)) a := fun b => (hf.again (hag b)).mono (Nat.le_succ _)
          have hkb : ∀ b : Bool, Kept P ls (upd η st.cnt (.bool b)) = Kept P ls η := fun b => kept_ag hll (hag b)
          have hjoin : ∀ (b : Bool) (η' : Nat → Value), Ag (st.cnt + 1) (upd η st.cnt (.bool b)) η' → Ag st.cnt η η' := fun b η' h => (hag b).trans h (Nat.le_succ _)
          have hside : ∀ b : Bool, ∃ R : Out → (Nat → Value) → World → Prop, (if b then (p1.1.app (keepAll ls q1.1)) else (p2.1.app (keepAll ls q2.1))).wp P R (upd η st.cnt (.bool b)) w ∧
              ∀ η' a' w', FR nt (if b then q1.2 else q2.2) η' a' → Ag (st.cnt + 1) (upd η st.cnt (.bool b)) η' → R .nrm η' w' → Q .normal a' w' := by
            intro b
            obtain ⟨t, R, t1, t2, t3⟩ := f3 (hfb b) (Prog.wp_app _ _ _ _ _ (hwp b))
            have ht : t = b := by simpa [SV.val, upd] using t1.symm
            subst ht
            refine ⟨R, by cases t <;> exact t2, fun η' a' w' hf' hag' hr' => ?_⟩
            obtain ⟨η'', u1, u2, u3⟩ := t3 η' a' w' (by cases t <;> exact hf') hag' hr'
            obtain ⟨u4, u5⟩ := y3 u1 u3
            exact hQ η'' a' w' u4 (hjoin _ _ u2) u5
          simp only [List.mem_cons, List.not_mem_nil, or_false] at hm
          rcases hm with rfl | rfl
          · obtain ⟨R, r1, r2⟩ := hside true
            have := a3 (Q := Q) hnp (hfb true) (hll.le (Nat.le_succ _)) (by rw [hkb]; exact hk) (hcl.step (by rw [hij]; simp)) r1 (fun η' a' w' hf' hag' hr' => r2 η' a' w' hf' hag' hr')
            have hSK : SK P ops T ls (upd η st.cnt (.bool true)) = SK P ops T ls η := by unfold SK; rw [hkb]
            rwa [hSK] at this
          · obtain ⟨R, r1, r2⟩ := hside false
            have hf2 : FR nt { st with cnt := q1.2.cnt } (upd η st.cnt (.bool false)) a := (hfb false).mono a1
            have := b3 (Q := Q) hnp hf2 (hll.le (Nat.le_trans (Nat.le_succ _) a1)) (by rw [hkb]; exact hk) (hcl.step (by rw [hij]; simp)) r1 (fun η' a' w' hf' hag' hr' => r2 η' a' w' hf' (fun n hn => hag' n (Nat.lt_of_lt_of_le hn a1)) hr')
            have hSK : SK P ops T ls (upd η st.cnt (.bool false)) = SK P ops T ls η := by unfold SK; rw [hkb]
            rwa [hSK] at this
        · cases hb
      | some x =>
      rw [hpk] at hb
      dsimp only at hb
      simp only [Option.bind_eq_some_iff] at hb
      obtain ⟨o, hi, hb⟩ := hb
      obtain ⟨i, look⟩ := x
      have hx := hpk
      dsimp only at hi hb
      split at hb
      · rename_i hd
        split at hb
        · rename_i b hg
          simp only [Option.bind_eq_some_iff, Option.map_eq_some_iff] at hb
          obtain ⟨p, hp, q', hq', rfl⟩ := hb
          obtain ⟨i1, i2, i3⟩ := ih _ _ _ _ _ hq'
          obtain ⟨s1, s2, s3⟩ := stepD_ok hx hi hs hd hp i1 i2 i3
          exact ⟨s1, s2, fun {η a w QP Q} hnp hf hll hk hcl hwp hQ => s3 hnp (guardB_val hf hg) hf hll hk hcl hwp hQ⟩
        · simp only [Option.bind_eq_some_iff, Option.map_eq_some_iff] at hb
          obtain ⟨⟨d, n, want⟩, hg, p1, h1, q1, h2, p2, h3, q2, h4, e⟩ := hb
          dsimp only at *
          obtain ⟨gd, gm, gw⟩ := guardF_val (nt := nt) hg
          obtain ⟨i1, i2, i3⟩ := ih _ _ _ _ _ h2
          obtain ⟨j1, j2, j3⟩ := ih _ _ _ _ _ h4
          obtain ⟨a1, a2, a3⟩ := stepD_ok hx hi hs hd h1 i1 i2 i3
          obtain ⟨b1, b2, b3⟩ := stepD_ok hx hi hs hd h3 j1 j2 j3
          have a1 : st.cnt ≤ q1.2.cnt := a1
          have b1 : q1.2.cnt ≤ q2.2.cnt := b1
          have hne : ∀ t, t ∉ dstsO ops → t ≠ d := fun t ht e => ht (e ▸ gm)
          obtain ⟨f1, f2, f3⟩ := fork_ok (P := P) (nt := nt) (st := st) (l := dstsO ops) (x := .s n) (pa := (p1.1.app (if look || barB ops i T then q1.1 else keepAll ls q1.1), q1.2)) (pb := (p2.1.app (if look || barB ops i T then q2.1 else keepAll ls q2.1), q2.2)) a1 b1
            (fun t ht => by rw [a2 t ht]; exact knows_get (hne t ht)) (fun t ht => by rw [b2 t ht]; exact knows_get (hne t ht))
          rw [e] at f1 f2 f3
          refine ⟨f1, f2, fun {η a w QP Q} hnp hf hll hk hcl hwp hQ => ?_⟩
          obtain ⟨t, R, t1, t2, t3⟩ := f3 hf hwp
          have hw := gw hf t1
          cases t with
          | true =>
            refine a3 hnp hw (hf.knows gd t1) hll hk hcl t2 fun η' a' w' hf' hag hr' => ?_
            obtain ⟨η'', u1, u2, u3⟩ := t3 η' a' w' hf' hag hr'
            exact hQ η'' a' w' u1 u2 u3
          | false =>
            have hf2 : FR nt { (st.knows d false) with cnt := q1.2.cnt } η a := (hf.knows gd t1).mono a1
            refine b3 hnp hw hf2 (hll.le a1) hk hcl t2 fun η' a' w' hf' hag hr' => ?_
            obtain ⟨η'', u1, u2, u3⟩ := t3 η' a' w' hf' (fun m hm => hag m (Nat.lt_of_lt_of_le hm a1)) hr'
            exact hQ η'' a' w' u1 u2 u3
      · cases hb

theorem regionB_ok {id : Nat} {ops : Array Oper} {d : Bool} {st : BS} {q : Prog × BS} (hb : regionB P nt ops d st = some q) : st.cnt ≤ q.2.cnt ∧ (∀ t, t ∉ dstsO ops → q.2.fr.get deep t = st.fr.get deep t) ∧
    ∀ {η : Nat → Value} {a : Act} {w : World} {QP : Out → (Nat → Value) → World → Prop} {Q : Exit → Act → World → Prop}, FR nt st η a → q.1.wp P QP η w →
      (∀ η' a' w', FR nt q.2 η' a' → Ag st.cnt η η' → QP .nrm η' w' → Q .normal a' w') → (Code.region id ops d).wp P Q a w := by
  unfold regionB at hb
  cases d with
  | true =>
    simp only [if_true] at hb
    split at hb
    · rename_i hc
      simp only [Bool.and_eq_true] at hc
      simp only [Option.map_eq_some_iff] at hb
      obtain ⟨p, hp, rfl⟩ := hb
      obtain ⟨s1, s2, s3⟩ := opsD_ok (nt := nt) hc.2 _ _ _ _ _ _ hp
      refine ⟨s1, s2, fun {η a w QP Q} hf hwp hQ => ?_⟩
      have h1 := s3 (Q := fun e a w => match e with | .normal => Q .normal a w | _ => False) (fun c a w h => h) hf (fun x hx => by simp at hx) (fun x hx => by simp at hx) (closed_none _) hwp hQ
      have h2 : (Code.region id ops true).wp P (fun e a w => match e with | .normal => Q .normal a w | _ => False) a w := wp_region_S hc.1 h1
      refine Code.wp_mono ?_ h2
      intro e a w he
      cases e <;> first | exact he | exact he.elim
    · cases hb
  | false =>
    simp only [Bool.false_eq_true, if_false] at hb
    split at hb
    · rename_i p hp
      cases hb
      split at hp
      · cases hp
      obtain ⟨g1, g2, g3⟩ := opsB_ok (nt := nt) _ _ _ _ hp
      exact ⟨g1, g2, fun {η a w QP Q} hf hwp hQ => wp_region_list (g3 hf hwp hQ)⟩
    · obtain ⟨g1, g2, g3⟩ := opsT_ok (nt := nt) _ _ _ _ (fun o h => h) hb
      exact ⟨g1, g2, fun {η a w QP Q} hf hwp hQ => wp_region_list (g3 hf hwp hQ)⟩

end
end Go.Lx

/- Code does what the program promises that was taken from it. -/
namespace Go.Lx
open Go.CX (T deep pureRun fieldOffT)

section
variable {P : Program} {nt : Nat}

/-- What the builder's result is, beside its program. -/
structure Stat (c : Code) (st : BS) (r : R) : Prop where
  cnt : st.cnt ≤ r.cnt
  nx : ∀ s, r.nx = some s → st.cnt ≤ s.cnt ∧ s.cnt ≤ r.cnt ∧ ∀ t, t ∉ dsts c → s.fr.get deep t = st.fr.get deep t
  ex : ∀ i s, (i, s) ∈ r.ex → st.cnt ≤ s.cnt ∧ s.cnt ≤ r.cnt ∧ ∀ t, t ∉ dsts c → s.fr.get deep t = st.fr.get deep t

/-- The results' slots. -/
def ResAt (rs : List Tmp) (a : Act) (xs : List Value) : Prop := rs.map (fun t => a.tmps.getD t undef) = xs

/-- What a piece of code promises of its exits. -/
abbrev Wp := (Exit → Act → World → Prop) → Act → World → Prop

def SoundAt (rs : List Tmp) (nt : Nat) (P : Program) (W : Wp) (st : BS) (r : R) : Prop :=
  ∀ (η : Nat → Value) (a : Act) (w : World) (QP : Out → (Nat → Value) → World → Prop) (Q : Exit → Act → World → Prop), FR nt st η a → r.p.wp P QP η w →
    (∀ s η' a' w', r.nx = some s → FR nt s η' a' → Ag st.cnt η η' → QP .nrm η' w' → Q .normal a' w') →
    (∀ i s η' a' w', (i, s) ∈ r.ex → FR nt s η' a' → Ag st.cnt η η' → QP .ext η' w' → Q (.exit i) a' w') →
    (∀ xs η' a' w', a'.defers = [] → ResAt rs a' xs → QP (.ret xs) η' w' → Q .ret a' w') → W Q a w

/-- The builder's program for one code does what another one promises. -/
def OkW (P : Program) (rs : List Tmp) (nt : Nat) (c : Code) (W : Wp) : Prop := ∀ (st : BS) (r : R), bld P rs nt c st = some r → Stat c st r ∧ SoundAt rs nt P W st r

abbrev wpOf (P : Program) (c : Code) : Wp := fun Q => c.wp P Q

/-- The laws that a frame of a state gives a wider count. -/
theorem seq_ok {rs : List Tmp} {x y x0 : Code} {Wy : Wp} (ihx : OkW P rs nt x (wpOf P x0)) (ihy : OkW P rs nt y Wy) : OkW P rs nt (.seq x y) (fun Q => x0.wp P (Exit.then (Wy Q) Q)) := by
  intro st r h
  simp only [bld, Option.bind_eq_some_iff] at h
  obtain ⟨ra, ha, h⟩ := h
  obtain ⟨sa, fa⟩ := ihx st ra ha
  split at h
  · rename_i hnx
    cases h
    refine ⟨⟨sa.cnt, (fun s hs => by rw [hnx] at hs; cases hs), fun i s hs => ?_⟩, fun η a w QP Q hf hp hn he hr => ?_⟩
    · obtain ⟨k1, k2, k3⟩ := sa.ex i s hs
      exact ⟨k1, k2, fun t ht => k3 t (fun h => ht (by simp [dsts, h]))⟩
    · refine (fa η a w QP _ hf hp (fun s η' a' w' hs => by rw [hnx] at hs; cases hs) ?_ ?_)
      · intro i s η' a' w' hs hf' hag hq; exact he i s η' a' w' hs hf' hag hq
      · intro xs η' a' w' hd hx hq; exact hr xs η' a' w' hd hx hq
  · rename_i s hnx
    simp only [Option.map_eq_some_iff] at h
    obtain ⟨rb, hb, rfl⟩ := h
    obtain ⟨sb, fb⟩ := ihy _ rb hb
    obtain ⟨k1, k2, k3⟩ := sa.nx s hnx
    have hcnt : ra.cnt ≤ rb.cnt := sb.cnt
    refine ⟨⟨Nat.le_trans sa.cnt sb.cnt, fun s' hs => ?_, fun i s' hs => ?_⟩, fun η a w QP Q hf hp hn he hr => ?_⟩
    · obtain ⟨m1, m2, m3⟩ := sb.nx s' hs
      refine ⟨Nat.le_trans sa.cnt m1, m2, fun t ht => ?_⟩
      rw [m3 t (fun h => ht (by simp [dsts, h]))]
      exact k3 t (fun h => ht (by simp [dsts, h]))
    · rcases List.mem_append.1 hs with hs | hs
      · obtain ⟨m1, m2, m3⟩ := sa.ex i s' hs
        exact ⟨m1, Nat.le_trans m2 hcnt, fun t ht => m3 t (fun h => ht (by simp [dsts, h]))⟩
      · obtain ⟨m1, m2, m3⟩ := sb.ex i s' hs
        refine ⟨Nat.le_trans sa.cnt m1, m2, fun t ht => ?_⟩
        rw [m3 t (fun h => ht (by simp [dsts, h]))]
        exact k3 t (fun h => ht (by simp [dsts, h]))
    · refine (fa η a w _ _ hf (Prog.wp_app _ _ _ _ _ hp) ?_ ?_ ?_)
      · intro s' η' a' w' hs hf' hag hq
        rw [hnx] at hs; cases hs
        refine fb η' a' w' QP Q (hf'.mono k2) hq (fun s'' η'' a'' w'' hs hf'' hag' hq' => hn s'' η'' a'' w'' hs hf'' (hag.trans hag' sa.cnt) hq') ?_ hr
        intro i s'' η'' a'' w'' hs hf'' hag' hq'
        exact he i s'' η'' a'' w'' (List.mem_append_right _ hs) hf'' (hag.trans hag' sa.cnt) hq'
      · intro i s' η' a' w' hs hf' hag hq; exact he i s' η' a' w' (List.mem_append_left _ hs) hf' hag hq
      · intro xs η' a' w' hd hx hq; exact hr xs η' a' w' hd hx hq

theorem Stat.wider {c c' : Code} {st : BS} {r : R} (h : Stat c st r) (hc : ∀ t, t ∉ dsts c' → t ∉ dsts c) : Stat c' st r :=
  ⟨h.cnt, fun s hs => ⟨(h.nx s hs).1, (h.nx s hs).2.1, fun t ht => (h.nx s hs).2.2 t (hc t ht)⟩, fun i s hs => ⟨(h.ex i s hs).1, (h.ex i s hs).2.1, fun t ht => (h.ex i s hs).2.2 t (hc t ht)⟩⟩

theorem cond_ok {rs : List Tmp} {c : Operand} {x y : Code} {Wx Wy W : Wp} (ihx : OkW P rs nt x Wx) (ihy : OkW P rs nt y Wy) (hW : ∀ Q a w t, a.eval c = .bool t → (if t then Wx else Wy) Q a w → W Q a w) : OkW P rs nt (.cond c x y) W := by
  intro st r h
  simp only [bld] at h
  split at h
  · rename_i hc
    obtain ⟨s1, f1⟩ := ihx st r h
    exact ⟨s1.wider (by simp only [dsts, List.mem_append, not_or]; exact fun t ht => ht.1), fun η a w QP Q hf hp hn he hr => hW Q a w true (evalSV_val hf hc).2.symm (f1 η a w QP Q hf hp hn he hr)⟩
  · rename_i hc
    obtain ⟨s1, f1⟩ := ihy st r h
    exact ⟨s1.wider (by simp only [dsts, List.mem_append, not_or]; exact fun t ht => ht.2), fun η a w QP Q hf hp hn he hr => hW Q a w false (evalSV_val hf hc).2.symm (f1 η a w QP Q hf hp hn he hr)⟩
  · rename_i z hz1 hz2 hc
    simp only [Option.bind_eq_some_iff, Option.map_eq_some_iff] at h
    obtain ⟨ra, ha, rb, hb, hr⟩ := h
    obtain ⟨sa, fa⟩ := ihx st ra ha
    obtain ⟨sb, fb⟩ := ihy _ rb hb
    have hsb : ra.cnt ≤ rb.cnt := sb.cnt
    have hda : ∀ t, t ∉ dsts (.cond c x y) → t ∉ dsts x := by simp only [dsts, List.mem_append, not_or]; exact fun t ht => ht.1
    have hdb : ∀ t, t ∉ dsts (.cond c x y) → t ∉ dsts y := by simp only [dsts, List.mem_append, not_or]; exact fun t ht => ht.2
    have sa' := sa.wider (c' := .cond c x y) hda
    have sb' := sb.wider (c' := .cond c x y) hdb
    have hex : ∀ i s, (i, s) ∈ ra.ex ++ rb.ex → st.cnt ≤ s.cnt ∧ s.cnt ≤ rb.cnt ∧ ∀ t, t ∉ dsts (.cond c x y) → s.fr.get deep t = st.fr.get deep t := by
      intro i s hs
      rcases List.mem_append.1 hs with hs | hs
      · obtain ⟨m1, m2, m3⟩ := sa'.ex i s hs
        exact ⟨m1, Nat.le_trans m2 hsb, m3⟩
      · obtain ⟨m1, m2, m3⟩ := sb'.ex i s hs
        exact ⟨Nat.le_trans sa.cnt m1, m2, m3⟩
    -- both sides, for whatever follows them
    have both : ∀ (pa pb : Prog) (η : Nat → Value) (a : Act) (w : World) (QP : Out → (Nat → Value) → World → Prop) (Q : Exit → Act → World → Prop), FR nt st η a → (Prog.ite z (ra.p.app pa) (rb.p.app pb) .nil).wp P QP η w →
        (∀ s η' a' w', ra.nx = some s → FR nt s η' a' → Ag st.cnt η η' → pa.wp P QP η' w' → Q .normal a' w') →
        (∀ s η' a' w', rb.nx = some s → FR nt s η' a' → Ag st.cnt η η' → pb.wp P QP η' w' → Q .normal a' w') →
        (∀ i s η' a' w', (i, s) ∈ ra.ex ++ rb.ex → FR nt s η' a' → Ag st.cnt η η' → QP .ext η' w' → Q (.exit i) a' w') →
        (∀ xs η' a' w', a'.defers = [] → ResAt rs a' xs → QP (.ret xs) η' w' → Q .ret a' w') → W Q a w := by
      intro pa pb η a w QP Q hf hp hna hnb he hr
      obtain ⟨t, ht, h1, h2⟩ := hp
      have hcv : a.eval c = .bool t := by rw [← ht]; exact (evalSV_val hf hc).2.symm
      have hpost : ∀ (o : Out) (η : Nat → Value) (w : World), (match o with | .nrm => Prog.nil.wp P QP η w | o => QP o η w) → QP o η w := by
        intro o η w ho
        cases o <;> exact ho
      refine hW Q a w t hcv ?_
      cases t with
      | true =>
        have h1' := Prog.wp_app _ _ _ _ _ (Prog.wp_mono _ _ _ _ _ hpost (h1 rfl))
        refine fa η a w _ Q hf h1' hna (fun i s η' a' w' hs => he i s η' a' w' (List.mem_append_left _ hs)) hr
      | false =>
        have h2' := Prog.wp_app _ _ _ _ _ (Prog.wp_mono _ _ _ _ _ hpost (h2 rfl))
        exact fb η a w _ Q (hf.mono sa.cnt) h2' (fun s η' a' w' hs hf' hag => hnb s η' a' w' hs hf' (fun m hm => hag m (Nat.lt_of_lt_of_le hm sa.cnt)))
          (fun i s η' a' w' hs hf' hag => he i s η' a' w' (List.mem_append_right _ hs) hf' (fun m hm => hag m (Nat.lt_of_lt_of_le hm sa.cnt))) hr
    have appnil : ∀ p : Prog, p.app .nil = p := by
      intro p
      induction p with
      | nil => rfl
      | op o args n k ih => simp only [Prog.app, ih]
      | chk n k ih => simp only [Prog.app, ih]
      | set n x k ih => simp only [Prog.app, ih]
      | ite c a b k _ _ ih => simp only [Prog.app, ih]
      | loop b k _ ih => simp only [Prog.app, ih]
      | keep o args n k ih => simp only [Prog.app, ih]
      | look o args n k ih => simp only [Prog.app, ih]
      | draw k ih => simp only [Prog.app, ih]
      | flip n k ih => simp only [Prog.app, ih]
      | exit => rfl
      | ret xs => rfl
    split at hr
    · rename_i s1 s2 hn1 hn2
      subst hr
      obtain ⟨a1, a2, a3⟩ := sa.nx s1 hn1
      obtain ⟨b1, b2, b3⟩ := sb.nx s2 hn2
      have b1' : ra.cnt ≤ s2.cnt := b1
      have hc1 : s1.cnt ≤ rb.cnt := Nat.le_trans a2 hsb
      obtain ⟨g1, g2, g3, g4⟩ := merge_ok (P := P) s1.fr s2.fr rb.cnt (dsts x ++ dsts y) st.fr rb.cnt (Nat.le_refl _)
      have hl : ∀ t, t ∉ dsts x ++ dsts y → t ∉ dsts x ∧ t ∉ dsts y := by simp only [List.mem_append, not_or]; exact fun t ht => ht
      refine ⟨⟨Nat.le_trans (Nat.le_trans sa.cnt hsb) g1, fun s hs => ?_, fun i s hs => ?_⟩, fun η a w QP Q hf hp hn he hr => ?_⟩
      · cases hs
        exact ⟨Nat.le_trans (Nat.le_trans sa.cnt hsb) g1, Nat.le_refl _, fun t ht => g2 t ht⟩
      · obtain ⟨m1, m2, m3⟩ := hex i s hs
        exact ⟨m1, Nat.le_trans m2 g1, m3⟩
      · refine both _ _ η a w QP Q hf hp ?_ ?_ he hr
        · intro s η' a' w' hs hf' hag hq
          rw [hn1] at hs; cases hs
          obtain ⟨η'', k1, k2, k3⟩ := merged hf hf' hag (g3 fun t x hx => SV.lt_le (hf'.get t x hx).1 hc1) hc1 g1 (Nat.le_trans sa.cnt hsb) (fun t ht => by rw [g2 t ht, a3 t (hl t ht).1]) hq
          exact hn _ η'' a' w' rfl k3 k1 k2
        · intro s η' a' w' hs hf' hag hq
          rw [hn2] at hs; cases hs
          obtain ⟨η'', k1, k2, k3⟩ := merged hf hf' hag (g4 fun t x hx => SV.lt_le (hf'.get t x hx).1 b2) b2 g1 (Nat.le_trans sa.cnt hsb) (fun t ht => by rw [g2 t ht]; exact (b3 t (hl t ht).2).symm) hq
          exact hn _ η'' a' w' rfl k3 k1 k2
    · rename_i s1 hn1 hn2
      subst hr
      refine ⟨⟨Nat.le_trans sa.cnt hsb, fun s hs => ?_, hex⟩, fun η a w QP Q hf hp hn he hr => ?_⟩
      · cases hs
        obtain ⟨m1, m2, m3⟩ := sa'.nx s1 hn1
        exact ⟨Nat.le_trans sa.cnt hsb, Nat.le_refl _, m3⟩
      · refine both .nil .nil η a w QP Q hf (by rw [appnil, appnil]; exact hp) (fun s η' a' w' hs hf' hag hq => ?_) (fun s η' a' w' hs => by rw [hn2] at hs; cases hs) he hr
        rw [hn1] at hs; cases hs
        exact hn _ η' a' w' rfl (hf'.mono (Nat.le_trans (sa.nx s1 hn1).2.1 hsb)) hag hq
    · rename_i s2 hn1 hn2
      subst hr
      refine ⟨⟨Nat.le_trans sa.cnt hsb, fun s hs => ?_, hex⟩, fun η a w QP Q hf hp hn he hr => ?_⟩
      · cases hs
        obtain ⟨m1, m2, m3⟩ := sb'.nx s2 hn2
        exact ⟨Nat.le_trans sa.cnt m1, m2, m3⟩
      · refine both .nil .nil η a w QP Q hf (by rw [appnil, appnil]; exact hp) (fun s η' a' w' hs => by rw [hn1] at hs; cases hs) (fun s η' a' w' hs hf' hag hq => ?_) he hr
        rw [hn2] at hs; cases hs
        exact hn _ η' a' w' rfl hf' hag hq
    · rename_i hn1 hn2
      subst hr
      refine ⟨⟨Nat.le_trans sa.cnt hsb, (fun s hs => by cases hs), hex⟩, fun η a w QP Q hf hp hn he hr => ?_⟩
      exact both .nil .nil η a w QP Q hf (by rw [appnil, appnil]; exact hp) (fun s η' a' w' hs => by rw [hn1] at hs; cases hs) (fun s η' a' w' hs => by rw [hn2] at hs; cases hs) he hr
  · cases h

theorem loop_ok {rs : List Tmp} {id : Nat} {b b0 : Code} (ih : OkW P rs nt b (wpOf P b0)) : OkW P rs nt (.block id (.loop b)) (wpOf P (.block id (.loop b0))) := by
  intro st r h
  simp only [bld, Option.bind_eq_some_iff] at h
  obtain ⟨rb, hb, h⟩ := h
  obtain ⟨g1, g2, g3, g4, g7, g5, g6⟩ := head_ok (P := P) (nt := nt) (dsts b).eraseDups st
  generalize head (dsts b).eraseDups st = q at *
  obtain ⟨pq, sq, prs⟩ := q
  dsimp only at *
  obtain ⟨sb, fb⟩ := ih sq rb hb
  split at h
  · rename_i s i e hnx hex
    split at h
    · rename_i hi
      subst hi
      simp only [Option.map_eq_some_iff] at h
      obtain ⟨⟨pz, qs, cz⟩, hz, rfl⟩ := h
      dsimp only
      obtain ⟨n1, n2, n3⟩ := sb.nx s hnx
      obtain ⟨e1, e2, e3⟩ := sb.ex i e (by rw [hex]; simp)
      obtain ⟨t1, t2, t3, t4⟩ := tail1_ok (P := P) s.fr rb.cnt prs rb.cnt pz qs cz hz (Nat.le_refl _) g4
      have hsl : ∀ t, t ∉ dsts (.block i (.loop b)) → t ∉ (dsts b).eraseDups ∧ t ∉ dsts b := by
        intro t ht
        have : t ∉ dsts b := ht
        exact ⟨fun h => this (by simpa using h), this⟩
      have hq : ∀ n k, (n, k) ∈ qs → st.cnt ≤ n ∧ n < rb.cnt := by
        intro n k h
        obtain ⟨⟨u, m⟩, hm, hmn⟩ := List.mem_map.1 (t2.subset (List.mem_map.2 ⟨(n, k), h, rfl⟩))
        dsimp only at hmn; subst hmn
        have := g3 u m hm
        have := sb.cnt
        omega
      refine ⟨⟨Nat.le_trans (Nat.le_trans g1 sb.cnt) t1, fun s' hs => ?_, fun i s' hs => by simp at hs⟩, fun η a w QP Q hf hp hn he hr => ?_⟩
      · cases hs
        exact ⟨Nat.le_trans (Nat.le_trans g1 sb.cnt) t1, Nat.le_refl _, fun t ht => by rw [← g7 t (hsl t ht).1]; exact e3 t (hsl t ht).2⟩
      · obtain ⟨η1, k1, k2, k3⟩ := g6 η a hf
        obtain ⟨n, hrounds⟩ := k2 w _ (Prog.wp_app _ _ _ _ _ hp)
        refine wp_block (wp_loop_rounds n ?_)
        clear hp k2
        -- round by round
        have go : ∀ n η1 a w, FR nt sq η1 a → Ag st.cnt η η1 → roundsP ((rb.p.app (pz.app (tail2 qs))).wp P) (fun o η w => match o with | .ext => Prog.nil.wp P QP η w | o => QP o η w) n η1 w →
            Code.rounds P b0 (Exit.inBlock i Q) n a w := by
          intro n
          induction n with
          | zero => intro η1 a w _ _ h; exact h.elim
          | succ n ihn =>
            intro η1 a w hf1 hag1 h
            rw [rounds_succ]
            refine fb η1 a w _ _ hf1 (Prog.wp_app _ _ _ _ _ h) ?_ ?_ ?_
            · intro s' η2 a2 w2 hs hf2 hag2 hq2
              rw [hnx] at hs; cases hs
              obtain ⟨η3, m1, m2, m3⟩ := t4 (fun t x hx => SV.lt_le (hf2.get t x hx).1 n2) η2
              have h3 := m2 w2 _ (Prog.wp_app _ _ _ _ _ hq2)
              obtain ⟨η4, o1, o2, o3⟩ := tail2_ok (P := P) qs rb.cnt (List.Pairwise.sublist t2 g4) (fun n k h => ⟨(hq n k h).2, t3 n k h⟩) η3
              have h4 := o1 w2 _ h3
              have hag4 : ∀ m, m < st.cnt → η4 m = η2 m := by
                intro m hm
                rw [o3 m ?_, m1 m (by have := sb.cnt; omega)]
                intro h
                obtain ⟨⟨u, k⟩, hu, rfl⟩ := List.mem_map.1 h
                have := (hq u k hu).1
                dsimp only at hm; omega
              have hag5 : ∀ m, m < st.cnt → η4 m = η m := fun m hm => by rw [hag4 m hm, hag2 m (by omega), hag1 m hm]
              refine ihn η4 a2 w2 ⟨hf2.defers, hf2.size, fun t x hx => ?_, fun n hn => ?_⟩ hag5 h4
              · rcases g5 t x hx with ⟨n, hn, rfl⟩ | ⟨hn, hx'⟩
                · refine ⟨(g3 t n hn).2, ?_⟩
                  obtain ⟨y, q1, q2⟩ := m3 t n hn
                  have hty := (hf2.get t y q1).2
                  rcases q2 with ⟨k, q2, q3⟩ | ⟨q2, q3⟩
                  · rw [hty]; show some (SV.val η2 y) = some (η4 n); rw [o2 n k q2, q3]
                  · subst q2
                    rw [hty]
                    show some (η2 n) = some (η4 n)
                    rw [o3 n q3, m1 n (by have := (g3 t n hn).2; have := sb.cnt; omega)]
                · have hlt : x.lt st.cnt := (hf.get t x hx').1
                  have hs' : s.fr.get deep t = some x := by rw [n3 t (fun h => hn (by simpa using h))]; exact hx
                  refine ⟨SV.lt_le hlt g1, ?_⟩
                  rw [(hf2.get t x hs').2]
                  congr 1
                  exact (SV.val_ag hag4 hlt).symm
              · rw [g2] at hn
                obtain ⟨q1, ad, q2⟩ := hf.known n hn
                exact ⟨by omega, ad, by rw [hag5 n q1]; exact q2⟩
            · intro i' s' η2 a2 w2 hs hf2 hag2 hq2
              rw [hex] at hs
              simp only [List.mem_singleton, Prod.mk.injEq] at hs
              obtain ⟨rfl, rfl⟩ := hs
              have : Q .normal a2 w2 := hn _ η2 a2 w2 rfl (hf2.mono (Nat.le_trans e2 t1)) (hag1.trans hag2 g1) hq2
              simpa [Exit.then, Exit.inBlock] using this
            · intro xs η2 a2 w2 hd hx hq2
              exact hr xs η2 a2 w2 hd hx hq2
        exact go n η1 a w k3 k1 hrounds
    · cases h
  · rename_i s hnx hex
    simp only [Option.map_eq_some_iff] at h
    obtain ⟨⟨pz, qs, cz⟩, hz, rfl⟩ := h
    dsimp only
    obtain ⟨n1, n2, n3⟩ := sb.nx s hnx
    obtain ⟨t1, t2, t3, t4⟩ := tail1_ok (P := P) s.fr rb.cnt prs rb.cnt pz qs cz hz (Nat.le_refl _) g4
    have hsl : ∀ t, t ∉ dsts (.block id (.loop b)) → t ∉ (dsts b).eraseDups ∧ t ∉ dsts b := by
      intro t ht
      have : t ∉ dsts b := ht
      exact ⟨fun h => this (by simpa using h), this⟩
    have hq : ∀ n k, (n, k) ∈ qs → st.cnt ≤ n ∧ n < rb.cnt := by
      intro n k h
      obtain ⟨⟨u, m⟩, hm, hmn⟩ := List.mem_map.1 (t2.subset (List.mem_map.2 ⟨(n, k), h, rfl⟩))
      dsimp only at hmn; subst hmn
      have := g3 u m hm
      have := sb.cnt
      omega
    refine ⟨⟨Nat.le_trans (Nat.le_trans g1 sb.cnt) t1, (fun s' hs => by cases hs), fun i s' hs => by simp at hs⟩, fun η a w QP Q hf hp hn he hr => ?_⟩
    · obtain ⟨η1, k1, k2, k3⟩ := g6 η a hf
      obtain ⟨n, hrounds⟩ := k2 w _ (Prog.wp_app _ _ _ _ _ hp)
      refine wp_block (wp_loop_rounds n ?_)
      clear hp k2
      -- round by round
      have go : ∀ n η1 a w, FR nt sq η1 a → Ag st.cnt η η1 → roundsP ((rb.p.app (pz.app (tail2 qs))).wp P) (fun o η w => match o with | .ext => Prog.nil.wp P QP η w | o => QP o η w) n η1 w →
          Code.rounds P b0 (Exit.inBlock id Q) n a w := by
        intro n
        induction n with
        | zero => intro η1 a w _ _ h; exact h.elim
        | succ n ihn =>
          intro η1 a w hf1 hag1 h
          rw [rounds_succ]
          refine fb η1 a w _ _ hf1 (Prog.wp_app _ _ _ _ _ h) ?_ ?_ ?_
          · intro s' η2 a2 w2 hs hf2 hag2 hq2
            rw [hnx] at hs; cases hs
            obtain ⟨η3, m1, m2, m3⟩ := t4 (fun t x hx => SV.lt_le (hf2.get t x hx).1 n2) η2
            have h3 := m2 w2 _ (Prog.wp_app _ _ _ _ _ hq2)
            obtain ⟨η4, o1, o2, o3⟩ := tail2_ok (P := P) qs rb.cnt (List.Pairwise.sublist t2 g4) (fun n k h => ⟨(hq n k h).2, t3 n k h⟩) η3
            have h4 := o1 w2 _ h3
            have hag4 : ∀ m, m < st.cnt → η4 m = η2 m := by
              intro m hm
              rw [o3 m ?_, m1 m (by have := sb.cnt; omega)]
              intro h
              obtain ⟨⟨u, k⟩, hu, rfl⟩ := List.mem_map.1 h
              have := (hq u k hu).1
              dsimp only at hm; omega
            have hag5 : ∀ m, m < st.cnt → η4 m = η m := fun m hm => by rw [hag4 m hm, hag2 m (by omega), hag1 m hm]
            refine ihn η4 a2 w2 ⟨hf2.defers, hf2.size, fun t x hx => ?_, fun n hn => ?_⟩ hag5 h4
            · rcases g5 t x hx with ⟨n, hn, rfl⟩ | ⟨hn, hx'⟩
              · refine ⟨(g3 t n hn).2, ?_⟩
                obtain ⟨y, q1, q2⟩ := m3 t n hn
                have hty := (hf2.get t y q1).2
                rcases q2 with ⟨k, q2, q3⟩ | ⟨q2, q3⟩
                · rw [hty]; show some (SV.val η2 y) = some (η4 n); rw [o2 n k q2, q3]
                · subst q2
                  rw [hty]
                  show some (η2 n) = some (η4 n)
                  rw [o3 n q3, m1 n (by have := (g3 t n hn).2; have := sb.cnt; omega)]
              · have hlt : x.lt st.cnt := (hf.get t x hx').1
                have hs' : s.fr.get deep t = some x := by rw [n3 t (fun h => hn (by simpa using h))]; exact hx
                refine ⟨SV.lt_le hlt g1, ?_⟩
                rw [(hf2.get t x hs').2]
                congr 1
                exact (SV.val_ag hag4 hlt).symm
            · rw [g2] at hn
              obtain ⟨q1, ad, q2⟩ := hf.known n hn
              exact ⟨by omega, ad, by rw [hag5 n q1]; exact q2⟩
          · intro i' s' η2 a2 w2 hs hf2 hag2 hq2
            rw [hex] at hs
            simp at hs
          · intro xs η2 a2 w2 hd hx hq2
            exact hr xs η2 a2 w2 hd hx hq2
      exact go n η1 a w k3 k1 hrounds
  · cases h

/-- Never by the exit of a block. -/
def noId (id : Nat) (Q : Exit → Act → World → Prop) : Exit → Act → World → Prop
  | .exit i, a, w => i ≠ id ∧ Q (.exit i) a w
  | e, a, w => Q e a w

theorem block_ok {rs : List Tmp} {id : Nat} {b : Code} {Wb : Wp} (hl : ∀ x, b ≠ .loop x) (ih : OkW P rs nt b Wb) : OkW P rs nt (.block id b) (fun Q => Wb (noId id Q)) := by
  intro st r h
  have h' : ((bld P rs nt b st).bind fun z => if z.ex.all (fun p => p.1 != id) then some z else none) = some r := by
    cases b with
    | loop x => exact (hl x rfl).elim
    | _ => simpa only [bld] using h
  simp only [Option.bind_eq_some_iff] at h'
  obtain ⟨r', hb, h'⟩ := h'
  split at h'
  · rename_i hall
    cases h'
    obtain ⟨sb, fb⟩ := ih st _ hb
    refine ⟨sb.wider fun t ht => ht, fun η a w QP Q hf hp hn he hr => fb η a w QP _ hf hp hn ?_ hr⟩
    intro i s η' a' w' hs hf' hag hq
    have hne : i ≠ id := by
      have := List.all_eq_true.1 hall _ hs
      simpa using this
    exact ⟨hne, he i s η' a' w' hs hf' hag hq⟩
  · cases h'

theorem OkW.mono {rs : List Tmp} {c : Code} {W W' : Wp} (h : OkW P rs nt c W) (hw : ∀ Q a w, W Q a w → W' Q a w) : OkW P rs nt c W' :=
  fun st r hb => ⟨(h st r hb).1, fun η a w QP Q hf hp hn he hr => hw Q a w ((h st r hb).2 η a w QP Q hf hp hn he hr)⟩

theorem skip_ok {rs : List Tmp} : OkW P rs nt .skip (fun Q a w => Q .normal a w) := by
  intro st r h
  simp only [bld, Option.some.injEq] at h
  subst h
  refine ⟨⟨Nat.le_refl _, fun s hs => ?_, fun i s hs => by simp at hs⟩, fun η a w QP Q hf hp hn he hr => hn st η a w rfl hf (Ag.refl _ _) hp⟩
  cases hs; exact ⟨Nat.le_refl _, Nat.le_refl _, fun _ _ => rfl⟩

theorem seqP {rs : List Tmp} {x y x0 y0 : Code} (ihx : OkW P rs nt x (wpOf P x0)) (ihy : OkW P rs nt y (wpOf P y0)) : OkW P rs nt (.seq x y) (wpOf P (.seq x0 y0)) :=
  (seq_ok ihx ihy).mono fun Q a w h => wp_seq h

theorem condP {rs : List Tmp} {c : Operand} {x y x0 y0 : Code} (ihx : OkW P rs nt x (wpOf P x0)) (ihy : OkW P rs nt y (wpOf P y0)) : OkW P rs nt (.cond c x y) (wpOf P (.cond c x0 y0)) :=
  cond_ok ihx ihy fun Q a w t ht h => wp_cond ht (by cases t <;> exact h)

theorem blockP {rs : List Tmp} {id : Nat} {b b0 : Code} (hl : ∀ x, b ≠ .loop x) (ih : OkW P rs nt b (wpOf P b0)) : OkW P rs nt (.block id b) (wpOf P (.block id b0)) :=
  (block_ok hl ih).mono fun Q a w h => wp_block (Code.wp_mono (fun e a w he => by
    cases e with
    | exit i => obtain ⟨h1, h2⟩ := he; simpa [Exit.inBlock, h1] using h2
    | _ => exact he) h)

theorem bld_ok (rs : List Tmp) : ∀ c : Code, OkW P rs nt c (wpOf P c) ∧ ∀ x, c = .loop x → OkW P rs nt x (wpOf P x) := by
  intro c
  induction c with
  | skip => exact ⟨skip_ok.mono fun Q a w h => wp_skip h, fun x h => by cases h⟩
  | region id ops d =>
    refine ⟨fun st r h => ?_, fun x h => by cases h⟩
    simp only [bld, Option.map_eq_some_iff] at h
    obtain ⟨⟨p, s⟩, hp, rfl⟩ := h
    obtain ⟨g1, g2, g3⟩ := regionB_ok (nt := nt) (id := id) hp
    refine ⟨⟨g1, fun s' hs => ?_, fun i s hs => by simp at hs⟩, fun η a w QP Q hf hp hn he hr => ?_⟩
    · cases hs; exact ⟨g1, Nat.le_refl _, fun t ht => g2 t ht⟩
    · exact g3 hf hp fun η' a' w' hf' hag hq => hn s η' a' w' rfl hf' hag hq
  | seq x y ihx ihy => exact ⟨seqP ihx.1 ihy.1, fun x h => by cases h⟩
  | cond c x y ihx ihy => exact ⟨condP ihx.1 ihy.1, fun x h => by cases h⟩
  | block id b ih =>
    refine ⟨?_, fun x h => by cases h⟩
    by_cases hl : ∃ x, b = .loop x
    · obtain ⟨x, rfl⟩ := hl
      exact loop_ok (ih.2 x rfl)
    · exact blockP (fun x hx => hl ⟨x, hx⟩) ih.1
  | loop b ih => exact ⟨fun st r h => by simp [bld] at h, fun x h => by cases h; exact ih.1⟩
  | exit id =>
    refine ⟨fun st r h => ?_, fun x h => by cases h⟩
    simp only [bld, Option.some.injEq] at h
    subst h
    refine ⟨⟨Nat.le_refl _, (fun s hs => by cases hs), fun i s hs => ?_⟩, fun η a w QP Q hf hp hn he hr => wp_exit (he id st η a w (by simp) hf (Ag.refl _ _) hp)⟩
    simp only [List.mem_singleton, Prod.mk.injEq] at hs
    obtain ⟨_, rfl⟩ := hs
    exact ⟨Nat.le_refl _, Nat.le_refl _, fun _ _ => rfl⟩
  | ret =>
    refine ⟨fun st r h => ?_, fun x h => by cases h⟩
    simp only [bld, Option.map_eq_some_iff] at h
    obtain ⟨xs, hxs, rfl⟩ := h
    refine ⟨⟨Nat.le_refl _, (fun s hs => by cases hs), fun i s hs => by simp at hs⟩, fun η a w QP Q hf hp hn he hr => wp_ret (hr _ η a w hf.defers ?_ hp)⟩
    obtain ⟨_, hv⟩ := evalSVs_val hf hxs
    unfold ResAt
    rw [← hv, List.map_map]; rfl
  | _ => exact ⟨fun st r h => by simp [bld] at h, fun x h => by cases h⟩

end
end Go.Lx

/- Jumps ahead: out of a block from its midst, to a label that is still to come. -/
namespace Go.Lx
open Go.CX (T deep pureRun fieldOffT)

abbrev JTg := Code → Option Code

def hasT (tg : JTg) : Code → Bool
  | .seq a b => hasT tg a || hasT tg b
  | .cond _ a b => hasT tg a || hasT tg b
  | x => (tg x).isSome

def tgE (id : Nat) : JTg
  | .exit i => if i = id then some .skip else none
  | _ => none

def tgG (l : Nat) (rest : Code) : JTg
  | .goto i => if i = l then some rest else none
  | _ => none

/-- The label of a scope, what follows it. -/
def labelOf : Code → Option Nat
  | .seq a b => (labelOf a).orElse fun _ => labelOf b
  | .label l => some l
  | _ => none

def wrapT : Option JTg → Code → Code → Code
  | none, c, _ => c
  | some _, c, k => .seq c k

/-- Code without such jumps; 'k' follows it where there is a target. -/
def nf : Code → Option JTg → Code → Code
  | .seq a b, none, _ => .seq (nf a none .skip) (nf b none .skip)
  | .seq a b, some tg, k => nf a (some tg) (nf b (some tg) k)
  | .cond c a b, none, _ => .cond c (nf a none .skip) (nf b none .skip)
  | .cond c a b, some tg, k => if hasT tg a || hasT tg b then .cond c (nf a (some tg) k) (nf b (some tg) k) else .seq (.cond c (nf a none .skip) (nf b none .skip)) k
  | .block id (.loop x), m, k => wrapT m (.block id (.loop (nf x none .skip))) k
  | .block id b, m, k =>
    let b' := if hasT (tgE id) b then nf b (some (tgE id)) .skip else nf b none .skip
    wrapT m (if (isLoop b').isSome then .block id b else .block id b') k
  | .scope c, m, k => wrapT m (match labelOf c with
      | some l => match findLabel c l with
        | some rest => nf c (some (tgG l rest)) .skip
        | none => .scope c
      | none => .scope c) k
  | .label l, none, _ => .label l
  | .label _, some _, k => k
  | x, none, _ => x
  | x, some tg, k => match tg x with
    | some r => r
    | none => .seq x k

section
variable {P : Program} {nt : Nat}

/-- What a target's exits are worth. -/
def TgOk (P : Program) (rs : List Tmp) (nt : Nat) (tg : JTg) (TE : Exit → Option Wp) : Prop :=
  TE .normal = none ∧ ∀ x r, tg x = some r → ∃ e W, (∀ Q a w, Q e a w → x.wp P Q a w) ∧ e ≠ .normal ∧ TE e = some W ∧ OkW P rs nt r W

def Rq (TE : Exit → Option Wp) (WK : Wp) (Q : Exit → Act → World → Prop) : Exit → Act → World → Prop
  | .normal, a, w => WK Q a w
  | e, a, w => (∃ W, TE e = some W ∧ W Q a w) ∨ Q e a w

theorem rq_other {TE : Exit → Option Wp} {WK : Wp} {Q : Exit → Act → World → Prop} {e : Exit} (he : e ≠ .normal) {a : Act} {w : World} : Rq TE WK Q e a w ↔ ((∃ W, TE e = some W ∧ W Q a w) ∨ Q e a w) := by
  cases e <;> first | exact (he rfl).elim | exact Iff.rfl

/-- A piece that is left as it is, and what follows. -/
theorem leaf_ok {rs : List Tmp} {x x0 k : Code} {TE : Exit → Option Wp} {WK : Wp} (hx : OkW P rs nt x (wpOf P x0)) (hk : OkW P rs nt k WK) : OkW P rs nt (.seq x k) (fun Q => x0.wp P (Rq TE WK Q)) :=
  (seq_ok hx hk).mono fun Q a w h => Code.wp_mono (fun e a w he => by
    cases e with
    | normal => exact he
    | _ => exact .inr he) h

def NfOk (P : Program) (rs : List Tmp) (nt : Nat) (c : Code) : Prop :=
  (∀ k, OkW P rs nt (nf c none k) (wpOf P c)) ∧ ∀ (tg : JTg) (TE : Exit → Option Wp) (k : Code) (WK : Wp), TgOk P rs nt tg TE → OkW P rs nt k WK → OkW P rs nt (nf c (some tg) k) (fun Q => c.wp P (Rq TE WK Q))

theorem wrap_ok {rs : List Tmp} {c c0 : Code} (h : OkW P rs nt c (wpOf P c0)) : (∀ k, OkW P rs nt (wrapT none c k) (wpOf P c0)) ∧
    ∀ (tg : JTg) (TE : Exit → Option Wp) (k : Code) (WK : Wp), TgOk P rs nt tg TE → OkW P rs nt k WK → OkW P rs nt (wrapT (some tg) c k) (fun Q => c0.wp P (Rq TE WK Q)) :=
  ⟨fun _ => h, fun _ _ _ _ _ hk => leaf_ok h hk⟩

theorem tgE_ok {rs : List Tmp} (id : Nat) : TgOk P rs nt (tgE id) (fun e => match e with | .exit i => if i = id then some (fun Q a w => Q .normal a w) else none | _ => none) := by
  refine ⟨rfl, fun x r h => ?_⟩
  unfold tgE at h
  split at h
  · rename_i i
    split at h
    · rename_i hi
      cases h
      exact ⟨.exit i, _, fun Q a w hq => wp_exit hq, by simp, by simp [hi], skip_ok⟩
    · cases h
  · cases h

theorem tgG_ok {rs : List Tmp} (l : Nat) (rest : Code) : TgOk P rs nt (tgG l rest) (fun e => match e with | .goto i => if i = l then some (wpOf P rest) else none | _ => none) := by
  refine ⟨rfl, fun x r h => ?_⟩
  unfold tgG at h
  split at h
  · rename_i i
    split at h
    · rename_i hi
      cases h
      exact ⟨.goto i, _, fun Q a w hq => wp_goto hq, by simp, by simp [hi], (bld_ok rs rest).1⟩
    · cases h
  · cases h

def noGoto (Q : Exit → Act → World → Prop) : Exit → Act → World → Prop
  | .goto _, _, _ => False
  | e, a, w => Q e a w

theorem OkW.noGoto {rs : List Tmp} {c : Code} {W : Wp} (h : OkW P rs nt c W) : OkW P rs nt c (fun Q => W (Lx.noGoto Q)) :=
  fun st r hb => ⟨(h st r hb).1, fun η a w QP Q hf hp hn he hr => (h st r hb).2 η a w QP (Lx.noGoto Q) hf hp hn he hr⟩

theorem scope_jump {c rest : Code} {l : Nat} {Q : Exit → Act → World → Prop} {a : Act} {w : World} (hf : findLabel c l = some rest)
    (h : c.wp P (Rq (fun e => match e with | .goto i => if i = l then some (wpOf P rest) else none | _ => none) (fun Q a w => Q .normal a w) (Lx.noGoto Q)) a w) : (Code.scope c).wp P Q a w := by
  refine wp_scope_jumps l (fun a w => rest.wp P (noGoto Q) a w) (fun _ _ => 0) hf ?_ ?_
  · refine Code.wp_mono (fun e a w he => ?_) h
    cases e with
    | normal => exact he
    | goto i =>
      rcases he with ⟨W, h1, h2⟩ | he
      · dsimp only at h1
        split at h1
        · rename_i hi; cases h1; exact ⟨hi, h2⟩
        · cases h1
      · exact he.elim
    | _ =>
      rcases he with ⟨W, h1, h2⟩ | he
      · cases h1
      · exact he
  · intro a w hJ
    refine Code.wp_mono (fun e a w he => ?_) hJ
    cases e with
    | goto i => exact he.elim
    | _ => exact he

theorem block_exit {id : Nat} {b : Code} {Q : Exit → Act → World → Prop} {a : Act} {w : World}
    (h : b.wp P (Rq (fun e => match e with | .exit i => if i = id then some (fun Q a w => Q .normal a w) else none | _ => none) (fun Q a w => Q .normal a w) (noId id Q)) a w) : (Code.block id b).wp P Q a w := by
  refine wp_block (Code.wp_mono (fun e a w he => ?_) h)
  cases e with
  | normal => exact he
  | exit i =>
    rcases he with ⟨W, h1, h2⟩ | ⟨h1, h2⟩
    · dsimp only at h1
      split at h1
      · rename_i hi; cases h1; subst hi; simpa [Exit.inBlock, noId] using h2
      · cases h1
    · simpa [Exit.inBlock, h1] using h2
  | _ =>
    rcases he with ⟨W, h1, h2⟩ | he
    · cases h1
    · exact he

theorem nf_ok (rs : List Tmp) : ∀ c : Code, NfOk P rs nt c ∧ ∀ x, c = .loop x → NfOk P rs nt x := by
  have leaf : ∀ x : Code, (∀ k, nf x none k = x) → (∀ tg k, nf x (some tg) k = match tg x with | some r => r | none => .seq x k) → NfOk P rs nt x := by
    intro x h1 h2
    refine ⟨fun k => by rw [h1]; exact (bld_ok rs x).1, fun tg TE k WK ht hk => ?_⟩
    rw [h2]
    cases hx : tg x with
    | none => exact leaf_ok (bld_ok rs x).1 hk
    | some r =>
      obtain ⟨e, W, g1, g2, g3, g4⟩ := ht.2 x r hx
      exact g4.mono fun Q a w h => g1 _ a w ((rq_other g2).2 (.inl ⟨W, g3, h⟩))
  intro c
  induction c with
  | seq a b iha ihb =>
    refine ⟨⟨fun k => ?_, fun tg TE k WK ht hk => ?_⟩, fun x h => by cases h⟩
    · simp only [nf]; exact seqP (iha.1.1 _) (ihb.1.1 _)
    · simp only [nf]
      refine (iha.1.2 tg TE _ _ ht (ihb.1.2 tg TE k WK ht hk)).mono fun Q a w h => wp_seq (Code.wp_mono (fun e a w he => ?_) h)
      cases e <;> exact he
  | cond c a b iha ihb =>
    refine ⟨⟨fun k => ?_, fun tg TE k WK ht hk => ?_⟩, fun x h => by cases h⟩
    · simp only [nf]; exact condP (iha.1.1 _) (ihb.1.1 _)
    · simp only [nf]
      split
      · exact cond_ok (iha.1.2 tg TE k WK ht hk) (ihb.1.2 tg TE k WK ht hk) fun Q a w t ht h => wp_cond ht (by cases t <;> exact h)
      · exact leaf_ok (condP (iha.1.1 _) (ihb.1.1 _)) hk
  | loop b ih => exact ⟨leaf _ (fun k => by simp only [nf]) (fun tg k => by simp only [nf]), fun x h => by cases h; exact ih.1⟩
  | block id b ih =>
    refine ⟨?_, fun x h => by cases h⟩
    by_cases hl : ∃ x, b = .loop x
    · obtain ⟨x, rfl⟩ := hl
      obtain ⟨g1, g2⟩ := wrap_ok (nt := nt) (rs := rs) (loop_ok (id := id) ((ih.2 x rfl).1 .skip))
      exact ⟨fun k => by simp only [nf]; exact g1 k, fun tg TE k WK ht hk => by simp only [nf]; exact g2 tg TE k WK ht hk⟩
    · have key : OkW P rs nt (let b' := if hasT (tgE id) b then nf b (some (tgE id)) .skip else nf b none .skip
        if (isLoop b').isSome then .block id b else .block id b') (wpOf P (.block id b)) := by
        have h2 : ∀ b' : Code, ((∀ x, b' ≠ .loop x) → OkW P rs nt (.block id b') (wpOf P (.block id b))) → OkW P rs nt (if (isLoop b').isSome then .block id b else .block id b') (wpOf P (.block id b)) := by
          intro b' h
          split
          · exact (bld_ok rs (.block id b)).1
          · rename_i hn
            exact h fun x hx => hn (by rw [hx]; rfl)
        refine h2 _ fun hn => ?_
        by_cases ht : hasT (tgE id) b = true
        · simp only [ht, if_true] at hn ⊢
          exact (block_ok hn (ih.1.2 _ _ .skip _ (tgE_ok id) skip_ok)).mono fun Q a w h => block_exit h
        · simp only [ht] at hn ⊢
          exact blockP hn (ih.1.1 .skip)
      obtain ⟨g1, g2⟩ := wrap_ok (nt := nt) (rs := rs) key
      cases b with
      | loop x => exact (hl ⟨x, rfl⟩).elim
      | _ => exact ⟨fun k => by simp only [nf]; exact g1 k, fun tg TE k WK ht hk => by simp only [nf]; exact g2 tg TE k WK ht hk⟩
  | scope c ih =>
    refine ⟨?_, fun x h => by cases h⟩
    have key : OkW P rs nt (match labelOf c with
      | some l => match findLabel c l with
        | some rest => nf c (some (tgG l rest)) .skip
        | none => .scope c
      | none => .scope c) (wpOf P (.scope c)) := by
      split
      · rename_i l hl
        split
        · rename_i rest hf
          exact (ih.1.2 _ _ .skip _ (tgG_ok l rest) skip_ok).noGoto.mono fun Q a w h => scope_jump hf h
        · exact (bld_ok rs (.scope c)).1
      · exact (bld_ok rs (.scope c)).1
    obtain ⟨g1, g2⟩ := wrap_ok (nt := nt) (rs := rs) key
    exact ⟨fun k => by simp only [nf]; exact g1 k, fun tg TE k WK ht hk => by simp only [nf]; exact g2 tg TE k WK ht hk⟩
  | label l =>
    refine ⟨⟨fun k => by simp only [nf]; exact (bld_ok rs _).1, fun tg TE k WK ht hk => ?_⟩, fun x h => by cases h⟩
    simp only [nf]
    exact hk.mono fun Q a w h => wp_label h
  | _ => exact ⟨leaf _ (fun k => by simp only [nf]) (fun tg k => by simp only [nf]), fun x h => by cases h⟩

end
end Go.Lx
