/- Operations with their types read: what each asks and gives, in plain words; programs of such operations. -/
import Derived.Test.YtmlmiljgbaalgaaDoorLx
import Derived.Deep.MidRow
import Derived.Lib.AppendStr
import Derived.Laws.OwnMore
import Derived.Maps.AppendAt
import Derived.Laws.BytesArg
import Derived.Laws.IdiomStrings
import Derived.Lib.AppendZeros
import Derived.Lib.ConvBytes
import Derived.Lib.Strings
import Derived.ChangeKeysEq
set_option linter.unusedSimpArgs false
set_option linter.unusedVariables false
namespace Go.Nx
open Go.Lx
open Go.CX (pureRun isAggT sizeOfT run_isAgg run_sizeOf' pureRun_run)

/-- A byte's cell. -/
def u8 (b : UInt8) : Value := .int .u8 (b.toNat : Int)

/-- Bytes behind an address. -/
def BytesAt (w : World) (a : Addr) (bs : List UInt8) : Prop := ∀ j (h : j < bs.length), w.cell? (a.add j) = some (u8 bs[j])

/-- A slice of bytes, as a world has it: none, or cells behind an address. -/
def Sl0 (w : World) (v : Value) (bs : List UInt8) : Prop := (v = .slice none 0 0 ∧ bs = []) ∨ ∃ a c, v = .slice (some a) bs.length c ∧ BytesAt w a bs

/-- An append: all but the old row is as it was; the new row is the old one or a new block. -/
def Gr (w : World) (v : Value) (w' : World) (v' : Value) : Prop := w.grownBy w' v.ownBlock ∧ (v'.ownBlock = v.ownBlock ∨ ∀ g, v'.ownBlock = some g → w.heap.size ≤ g)

inductive In where
  | load
  | loadN (n : Nat)
  | store (n : Nat)
  | len
  | lenS
  | bin (op : BinOp)
  | cv (k : IntKind)
  | not
  | toStr
  | sl (sz : Nat) (lo hi mx : Bool)
  | ia (sz : Nat)
  | app (e : TypeId)
  | appS (e : TypeId)
  | call (f : FuncId)
  | alloc (z : List Value)
  | box (n : Nat)
  | isNil (kind : Nat) (neq : Bool)
  | ex (i : Nat)
  | sh (op : BinOp)
  | bsl (e : TypeId)
  | idxS
  | lit (z : List Value) (offs : List Nat)
  | appZ (z : List Value)
  | rem
  | lenM
  | mm (mx : Bool)
  | mk (e : TypeId) (z : List Value)
  | cpy
  | sla (n : Nat)
  | bslG (sz : Nat)
  | appG (e : TypeId) (sz : Nat)
  | mkif (t : TypeId)
  | mkfn (f : FuncId)
  | callV
  | mkMap
  | mapSet
  | lookM (z : Value)
  | rangeM
  | nextM
  | entM
  | eqS (neq : Bool)
  | eqB (neq : Bool)
  | slS (lo hi : Bool)
  | toByt
  | bad
  | int2 (op : BinOp)
  | neg
  | fld1 (o : Nat)
  | fldN (o n : Nat)
  | litG (z : List Value) (pls : List (Nat × Nat))
  | eqA (n : Nat) (k : IntKind) (neq : Bool)
  | inv (m : String)
  | cap
  deriving Inhabited

/-! Maps whose keys are whole numbers. -/
def keyIs (k : IntKind) (n : Int) (e : MapEntry) : Bool :=
  match e.key with
  | .int k' m => decide (k' = k) && n == m
  | _ => false

def KeysInt (k : IntKind) (es : Array MapEntry) : Prop := ∀ e ∈ es.toList, ∃ m, e.key = .int k m

def putE (es : Array MapEntry) (k : IntKind) (n : Int) (v : Value) (cl : Nat) : Obj :=
  match es.toList.findIdx? (keyIs k n) with
  | some i => .map (es.modify i fun e => { e with key := .int k n, val := v }) cl
  | none => .map (es.push { key := .int k n, val := v, born := cl }) (cl + 1)

def setO (w : World) (r : Nat) (o : Obj) : World := { w with heap := w.heap.setIfInBounds r o }

/-- Integers' operations, by their results. -/
def binV (op : BinOp) (k : IntKind) (x y : Int) : Option Value :=
  match op with
  | .add => some (.int k (k.wrap (x + y)))
  | .sub => some (.int k (k.wrap (x - y)))
  | .mul => some (.int k (k.wrap (x * y)))
  | .and => some (.int k (k.wrap (BitVec.ofInt k.bits x &&& BitVec.ofInt k.bits y).toNat))
  | .or => some (.int k (k.wrap (BitVec.ofInt k.bits x ||| BitVec.ofInt k.bits y).toNat))
  | .lss => some (.bool (decide (x < y)))
  | .leq => some (.bool (decide (x ≤ y)))
  | .gtr => some (.bool (decide (x > y)))
  | .geq => some (.bool (decide (x ≥ y)))
  | .eql => some (.bool (x == y))
  | .neq => some (.bool (x != y))
  | _ => none

/-- The bound of a slice's end. -/
def bnd (b : Bool) (d : Nat) (args : List Value) (r : List Value → Nat → Prop) : Prop :=
  if b then ∃ k n rest, args = .int k (n : Nat) :: rest ∧ r rest n else r args d

/-- Shifts. -/
def shV (op : BinOp) (k : IntKind) (x : Int) (n : Nat) : Option Value :=
  match op with
  | .shl => some (.int k (k.wrap (x * 2 ^ (min n k.bits))))
  | .shr => some (.int k (x.fdiv (2 ^ (min n k.bits))))
  | _ => none

/-- Parts of one cell each put into a struct's cells. -/
def putAll : List Value → List (Nat × Value) → List Value
  | z, [] => z
  | z, (o, v) :: r => putAll (z.set o v) r

/-- Quotients, and bits by turns. -/
def intV2 (op : BinOp) (k : IntKind) (x y : Int) : Option Value :=
  match op with
  | .quo => if y = 0 then none else some (.int k (k.wrap (x.tdiv y)))
  | .xor => some (.int k (k.wrap (BitVec.ofInt k.bits x ^^^ BitVec.ofInt k.bits y).toNat))
  | .andNot => some (.int k (k.wrap (BitVec.ofInt k.bits x &&& ~~~BitVec.ofInt k.bits y).toNat))
  | _ => none

/-- Parts of whatever width put into a struct's cells. -/
def fillG : List Value → List (Nat × Nat) → List Value → Option (List Value)
  | z, [], [] => some z
  | z, (o, n) :: pls, v :: vs => if v.cells.size = n ∧ o + n ≤ z.length then fillG (z.take o ++ v.cells.toList ++ z.drop (o + n)) pls vs else none
  | _, _, _ => none

def nilV : Nat → Value → Option Bool
  | 0, .pointer a => some a.isNone
  | 1, .slice a _ _ => some a.isNone
  | 2, .nilIface => some true
  | 2, .iface _ _ => some false
  | 3, .map a => some a.isNone
  | _, _ => none

/-- What an operation asks of its arguments and the world, and what it then gives. -/
def In.wp (P : Program) : In → List Value → World → (Value → World → Prop) → Prop
  | .load, args, w, K => ∃ a v, args = [.pointer (some a)] ∧ w.cell? a = some v ∧ K v w
  | .loadN n, args, w, K => ∃ b o cs, args = [.pointer (some ⟨b, o, none⟩)] ∧ w.rangeAt b o cs ∧ cs.length = n ∧ K (.agg cs.toArray) w
  | .store n, args, w, K => ∃ b o cs e v, args = [.pointer (some ⟨b, o, none⟩), v] ∧ w.heap[b]? = some (.cells (List.toArray cs) e (0, 0)) ∧ v.cells.size = n ∧ v.cells.all (·.oneCell') = true ∧ o + n ≤ cs.length ∧
      K undef (w.setRow b (cs.take o ++ v.cells.toList ++ cs.drop (o + n)).toArray)
  | .len, args, w, K => ∃ a n c, args = [.slice a n c] ∧ K (goInt n) w
  | .cap, args, w, K => ∃ a n c, args = [.slice a n c] ∧ K (goInt c) w
  | .lenS, args, w, K => ∃ s, args = [.string s] ∧ K (goInt s.size) w
  | .bin op, args, w, K => ∃ k x y v, args = [.int k x, .int k y] ∧ binV op k x y = some v ∧ K v w
  | .cv k, args, w, K => ∃ k0 x, args = [.int k0 x] ∧ K (.int k (k.wrap x)) w
  | .not, args, w, K => ∃ b, args = [.bool b] ∧ K (.bool (!b)) w
  | .toStr, args, w, K => ∃ v bs, args = [v] ∧ Sl0 w v bs ∧ K (.string ⟨bs.toArray⟩) w
  | .sl sz lo hi mx, args, w, K => ∃ a n c rest, args = .slice a n c :: rest ∧
      bnd lo 0 rest fun rest l => bnd hi n rest fun rest h => bnd mx c rest fun rest m => rest = [] ∧ l ≤ h ∧ h ≤ m ∧ m ≤ c ∧
        K (.slice (if m = l then a else a.map (·.add (l * sz))) (h - l) (m - l)) w
  | .ia sz, args, w, K => ∃ a n c k i, args = [.slice (some a) n c, .int k (i : Nat)] ∧ i < n ∧ K (.pointer (some (a.add (i * sz)))) w
  | .app e, args, w, K => (∃ B v n xs u bs, args = [v, u] ∧ w.ownsRow B e 1 v n xs ∧ B ≤ w.heap.size ∧ Sl0 w u bs ∧ n + bs.length ≤ 140737488355328 ∧
      ∀ v' w', w'.ownsRow B e 1 v' (n + bs.length) (xs ++ bs.map u8) → RowKit.Below B w w' → (v' = .slice none 0 0 → v = .slice none 0 0 ∧ bs = []) → Gr w v w' v' → K v' w') ∨
      ∃ g n c cs a bs c', args = [.slice (some ⟨g, 0, none⟩) n c, .slice (some a) bs.length c'] ∧ w.heap[g]? = some (.cells (List.toArray cs) e (0, 0)) ∧ BytesAt w a bs ∧ n + bs.length ≤ c ∧ n + bs.length ≤ cs.length ∧
        K (.slice (some ⟨g, 0, none⟩) (n + bs.length) c) (w.setRow g (cs.take n ++ bs.map u8 ++ cs.drop (n + bs.length)).toArray)
  | .appS e, args, w, K => ∃ B v n xs s, args = [v, .string s] ∧ w.ownsRow B e 1 v n xs ∧ B ≤ w.heap.size ∧ n + s.size ≤ 140737488355328 ∧
      ∀ v' w', w'.ownsRow B e 1 v' (n + s.size) (xs ++ s.data.toList.map u8) → RowKit.Below B w w' → (v' = .slice none 0 0 → v = .slice none 0 0 ∧ s.size = 0) → Gr w v w' v' → K v' w'
  | .call f, args, w, K => Calls P f args.toArray w fun
      | .returned v, w' => K v w'
      | _, _ => False
  | .alloc z, args, w, K => ∀ e, K (.pointer (some ⟨w.heap.size, 0, none⟩)) (w.alloc (.cells z.toArray e))
  | .box n, args, w, K => ∃ v, args = [v] ∧ v.cells.size = n ∧ ∀ e, K (.pointer (some ⟨w.heap.size, 0, none⟩)) (w.alloc (.cells v.cells e))
  | .isNil kind neq, args, w, K => ∃ v b, args = [v] ∧ nilV kind v = some b ∧ K (.bool (b != neq)) w
  | .sh op, args, w, K => ∃ k x k' n v, args = [.int k x, .int k' (n : Nat)] ∧ shV op k x n = some v ∧ K v w
  | .bsl e, args, w, K => (∀ v ∈ args, ∃ n, v = .int .u8 n) ∧ K (.slice (some ⟨w.heap.size, 0, none⟩) args.length args.length) (w.alloc (.cells args.toArray e))
  | .idxS, args, w, K => ∃ s k i b, args = [.string s, .int k (i : Nat)] ∧ s[i]? = some b ∧ K (u8 b) w
  | .lit z offs, args, w, K => args.length = offs.length ∧ (∀ v ∈ args, v.cells.size = 1 ∧ v.cells.toList = [v]) ∧ K (.agg (putAll z (offs.zip args)).toArray) w
  | .ex i, args, w, K => ∃ vs v, args = [.tuple vs] ∧ vs[i]? = some v ∧ K v w
  | .appZ z, args, w, K => ∃ k n, 0 < n ∧ n < 4294967296 ∧
      ((args = [.slice none 0 0, .int k (n : Nat)] ∧ ∀ cap e, n ≤ cap → K (.slice (some ⟨w.heap.size, 0, none⟩) n cap) (w.drew.alloc (.cells (List.replicate cap z).flatten.toArray e))) ∨
      (n ≤ 2147483648 ∧ ∃ b c cs e, args = [.slice (some ⟨b, 0, none⟩) 0 c, .int k (n : Nat)] ∧ w.heap[b]? = some (.cells (List.toArray cs) e (0, 0)) ∧ cs.length = c * z.length ∧
        (n ≤ c → K (.slice (some ⟨b, 0, none⟩) n c) (w.setRow b ((List.replicate n z).flatten ++ cs.drop (n * z.length)).toArray)) ∧
        (c < n → ∀ cap e, n ≤ cap → K (.slice (some ⟨w.heap.size, 0, none⟩) n cap) (w.drew.alloc (.cells (List.replicate cap z).flatten.toArray e)))))
  | .rem, args, w, K => ∃ k x y, args = [.int k x, .int k y] ∧ y ≠ 0 ∧ K (.int k (x.tmod y)) w
  | .lenM, args, w, K => (args = [.map none] ∧ K (goInt 0) w) ∨ ∃ r es cl, args = [.map (some r)] ∧ w.heap[r]? = some (.map es cl) ∧ K (goInt es.size) w
  | .mm mx, args, w, K => ∃ k x y, args = [.int k x, .int k y] ∧ K (.int k (if mx then max x y else min x y)) w
  | .mk e z, args, w, K => ∃ k n k' m, args = [.int k (n : Nat), .int k' (m : Nat)] ∧ n ≤ m ∧ m < 4294967296 ∧
      K (.slice (some ⟨w.heap.size, 0, none⟩) n m) (w.alloc (.cells (List.replicate m z).flatten.toArray e))
  | .cpy, args, w, K => ∃ b o cs e n c src bs, args = [.slice (some ⟨b, o, none⟩) n c, src] ∧ w.heap[b]? = some (.cells (List.toArray cs) e (0, 0)) ∧ o + n ≤ cs.length ∧ Sl0 w src bs ∧
      K (goInt (min bs.length n)) (w.setRow b (cs.take o ++ (bs.take n).map u8 ++ cs.drop (o + min bs.length n)).toArray)
  | .sla n, args, w, K => ∃ a, args = [.pointer (some a)] ∧ K (.slice (some a) n n) w
  | .bslG sz, args, w, K => (∀ v ∈ args, v.cells.size = sz) ∧ ∀ e, K (.slice (some ⟨w.heap.size, 0, none⟩) args.length args.length) (w.alloc (.cells (args.map (·.cells.toList)).flatten.toArray e))
  | .appG e sz, args, w, K => ∃ B v n xs a m c ys, args = [v, .slice (some a) m c] ∧ w.ownsRow B e sz v n xs ∧ B ≤ w.heap.size ∧ ys.length = m * sz ∧ (∀ j u, ys[j]? = some u → w.cell? (a.add j) = some u) ∧ (∀ u ∈ ys, u.oneCell' = true) ∧ n + m ≤ 1073741824 ∧
      ∀ v' w', w'.ownsRow B e sz v' (n + m) (xs ++ ys) → RowKit.Below B w w' → Gr w v w' v' → K v' w'
  | .mkif t, args, w, K => ∃ v, args = [v] ∧ K (.iface t v) w
  | .mkfn f, args, w, K => K (.func (.func f) #[] args.toArray) w
  | .callV, args, w, K => ∃ f caps rest fn, args = .func (.func f) #[] caps :: rest ∧ P.funcs[f]? = some fn ∧ fn.body.isSome = true ∧ Calls P f (rest.toArray ++ caps) w fun
      | .returned v, w' => K v w'
      | _, _ => False
  | .mkMap, _, w, K => K (.map (some w.heap.size)) (w.alloc (.map #[] 0))
  | .mapSet, args, w, K => ∃ r es cl k n v, args = [.map (some r), .int k n, v] ∧ w.heap[r]? = some (.map es cl) ∧ KeysInt k es ∧ K undef (setO w r (putE es k n v cl))
  | .lookM z, args, w, K => ∃ r es cl k n, args = [.map (some r), .int k n] ∧ w.heap[r]? = some (.map es cl) ∧ KeysInt k es ∧ K (((es.toList.find? (keyIs k n)).map (·.val)).getD z) w
  | .rangeM, args, w, K => (args = [.map none] ∧ K (.pointer (some ⟨w.heap.size, 0, none⟩)) (w.alloc (.mapIter none 0 #[] 0))) ∨
      ∃ r es cl, args = [.map (some r)] ∧ w.heap[r]? = some (.map es cl) ∧ K (.pointer (some ⟨w.heap.size, 0, none⟩)) (w.alloc (.mapIter (some r) cl #[] cl))
  | .nextM, args, w, K => (∃ b, args = [.pointer (some ⟨b, 0, none⟩)] ∧ w.heap[b]? = some (.mapIter none 0 #[] 0) ∧ K (.tuple #[.bool false]) w) ∨ ∃ b r seen es cl, args = [.pointer (some ⟨b, 0, none⟩)] ∧ w.heap[b]? = some (.mapIter (some r) cl seen cl) ∧ w.heap[r]? = some (.map es cl) ∧ (∀ e ∈ es.toList, e.born < cl) ∧
      (∀ e ∈ es.toList, ¬ e.born ∈ seen.toList → ∀ w1, w1 = w ∨ w1 = w.drew → K (.tuple #[.bool true, e.key, e.val]) (setO w1 b (.mapIter (some r) cl (seen.push e.born) cl))) ∧
      ((∀ e ∈ es.toList, e.born ∈ seen.toList) → ∀ w1, w1 = w ∨ w1 = w.drew → K (.tuple #[.bool false]) w1)
  | .entM, args, w, K => ∃ b r s seen cl es e born, args = [.pointer (some ⟨b, 0, none⟩)] ∧ w.heap[b]? = some (.mapIter (some r) s seen cl) ∧ w.heap[r]? = some (.map es cl) ∧ seen.back? = some born ∧ es.find? (·.born == born) = some e ∧
      K (.tuple #[e.key, e.val]) w
  | .eqS neq, args, w, K => ∃ s t, args = [.string s, .string t] ∧ K (.bool ((s.toList == t.toList) != neq)) w
  | .eqB neq, args, w, K => ∃ a b, args = [.bool a, .bool b] ∧ K (.bool ((a == b) != neq)) w
  | .slS lo hi, args, w, K => ∃ s rest, args = .string s :: rest ∧ bnd lo 0 rest fun rest l => bnd hi s.size rest fun rest h => rest = [] ∧ l ≤ h ∧ h ≤ s.size ∧ K (.string (s.extract l h)) w
  | .toByt, args, w, K => ∃ s, args = [.string s] ∧ ∀ c w', BytesAt w' ⟨w.heap.size, 0, none⟩ s.data.toList → RowKit.Below w.heap.size w w' → K (.slice (some ⟨w.heap.size, 0, none⟩) s.size c) w'
  | .bad, _, _, _ => False
  | .int2 op, args, w, K => ∃ k x y v, args = [.int k x, .int k y] ∧ intV2 op k x y = some v ∧ K v w
  | .neg, args, w, K => ∃ k x, args = [.int k x] ∧ K (.int k (k.wrap (0 - x))) w
  | .fld1 o, args, w, K => ∃ cs v, args = [.agg (List.toArray cs)] ∧ cs[o]? = some v ∧ K v w
  | .fldN o n, args, w, K => ∃ cs, args = [.agg (List.toArray cs)] ∧ K (.agg ((cs.drop o).take n).toArray) w
  | .litG z pls, args, w, K => ∃ r, fillG z pls args = some r ∧ K (.agg r.toArray) w
  | .inv m, args, w, K => ∃ f args', (invoke (.fn (.method m) #[]) args.toArray).run P w = .ok (.enter f args') w ∧ Calls P f args' w fun
      | .returned v, w' => K v w'
      | _, _ => False
  | .eqA n k neq, args, w, K => ∃ xs ys : List Int, args = [.agg (xs.map (Value.int k)).toArray, .agg (ys.map (Value.int k)).toArray] ∧ xs.length = n ∧ ys.length = n ∧ K (.bool ((xs == ys) != neq)) w

section
variable (P : Program)

def sliceSz (t : TypeId) : Option Nat :=
  match P.underlying t with
  | some (.slice e) => sizeOfT P e
  | _ => none

/-- Slices of bytes: their element's type. -/
def bytesOf (t : TypeId) : Option TypeId :=
  match P.underlying t with
  | some (.slice e) => match P.underlying e, P.info? e with
    | some (.int .u8), some i => match i.zero with
      | some (.int .u8 n) => if n = 0 ∧ i.size = 1 ∧ i.bytes = 1 then some e else none
      | _ => none
    | _, _ => none
  | _ => none

def isStr (t : TypeId) : Bool :=
  match P.underlying t with
  | some .string => true
  | _ => false

def intOf (t : TypeId) : Option IntKind :=
  match P.underlying t with
  | some (.int k) => some k
  | _ => none

def plainOp : BinOp → Bool
  | .add | .sub | .mul | .and | .or | .lss | .leq | .gtr | .geq | .eql | .neq => true
  | _ => false

/-- Its elements' zero, if they are of a size at least one. -/
def zeroAt (t : TypeId) : Option (List Value) := ((P.info? t).bind (·.zero)).map (·.cells.toList)

/-- Types whose values may be nil: the nil that is told fits the type. -/
def nilFits (t : TypeId) (v : Value) : Option Nat :=
  match P.underlying t, v with
  | some (.pointer _), .pointer none => some 0
  | some (.slice _), .slice none _ _ => some 1
  | some (.interface _), .nilIface => some 2
  | _, _ => none

/-- A struct's parts: their offsets, if each is one cell. -/
def offsOf (fs : List Go.Field) : List Nat → Option (List Nat)
  | [] => some []
  | i :: r => (fs[i]?).bind fun f => if sizeOfT P f.type = some 1 then (offsOf fs r).map (f.offset :: ·) else none

/-- An operation with its types read. -/
def resA (o : Oper) (args : List SV) : Option (In × List SV) :=
  match o.op with
  | .load t _ => match isAggT P t with
    | some false => some (.load, args)
    | some true => (sizeOfT P t).map fun n => (.loadN n, args)
    | none => none
  | .store t _ _ => (sizeOfT P t).map fun n => (.store n, args)
  | .call c => match c.callee with
    | .builtin .len => match c.args.toList, c.argTypes.toList with
      | [_], [t] => if isStr P t then some (.lenS, args) else if (sliceSz P t).isSome then some (.len, args) else none
      | _, _ => none
    | .builtin .append => match c.args.toList, c.argTypes.toList with
      | [_, _], [t, u] => (bytesOf P t).bind fun e => if isStr P u then some (.appS e, args) else if t = u then some (.app e, args) else none
      | _, _ => none
    | .value _ => match args with
      | .k (.func (.func f) fi ca) :: r => if fi.isEmpty && ca.isEmpty then match P.funcs[f]? with
          | some fn => if fn.body.isSome then some (.call f, r) else none
          | none => none
        else none
      | _ => none
    | _ => none
  | .binOp op t _ y _ =>
    if (intOf P t).isSome then
      if plainOp op then some (.bin op, args) else if op = .shl ∨ op = .shr then some (.sh op, args) else none
    else match y, args with
      | .const _, [a, .k v] => (nilFits P t v).bind fun k => if op = .eql then some (.isNil k false, [a]) else if op = .neq then some (.isNil k true, [a]) else none
      | _, _ => none
  | .buildSlice t len parts => (bytesOf P t).bind fun e => if parts.toList.map (·.1) = List.range len ∧ args.length = len ∧ len ≤ 65536 then some (.bsl e, args) else none
  | .index t _ _ => if isStr P t then some (.idxS, args) else none
  | .build t parts => match P.underlying t with
    | some (.struct fs) => (zeroAt P t).bind fun z => (offsOf P fs.toList (parts.toList.map (·.1))).bind fun offs =>
        if (fs.toList.all fun f => (sizeOfT P f.type).isSome) && offs.all (fun o => o < z.length) && args.length == offs.length then some (.lit z offs, args) else none
    | _ => none
  | .convert s d _ => match intOf P d, intOf P s with
    | some k, some _ => some (.cv k, args)
    | _, _ => if (bytesOf P s).isSome && isStr P d then some (.toStr, args) else none
  | .unOp .not _ _ => some (.not, args)
  | .slice t _ lo hi mx => if mx.isSome && !hi.isSome then none else (sliceSz P t).map fun n => (.sl n lo.isSome hi.isSome mx.isSome, args)
  | .indexAddr t _ _ => (sliceSz P t).map fun n => (.ia n, args)
  | .extract _ i => some (.ex i, args)
  | .alloc t => (zeroAt P t).map fun z => (.alloc z, args)
  | _ => none

/-- Types whose values may be nil: maps. -/
def isMapT (t : TypeId) : Bool :=
  match P.underlying t with
  | some (.map _ _) => true
  | _ => false

/-- Slices' elements: their type, their zero's cells; small ones. -/
def elemOf (t : TypeId) : Option (TypeId × List Value) :=
  match P.underlying t with
  | some (.slice e) => match P.info? e with
    | some i => match i.zero with
      | some z => if z.cells.size = i.size ∧ 0 < i.size ∧ i.bytes ≤ 65536 ∧ i.size ≤ i.bytes ∧ z.cells.all (·.oneCell') then some (e, z.cells.toList) else none
      | none => none
    | none => none
  | _ => none

/-- More operations with their types read. -/
def resB (o : Oper) (args : List SV) : Option (In × List SV) :=
  match o.op with
  | .box e _ => (sizeOfT P e).map fun n => (.box n, args)
  | .binOp op t _ y _ =>
    if (intOf P t).isSome then (if op = .rem then some (.rem, args) else none)
    else if isMapT P t then match y, args with
      | .const (.map none), [a, .k (.map none)] => if op = .eql then some (.isNil 3 false, [a]) else if op = .neq then some (.isNil 3 true, [a]) else none
      | _, _ => none
    else none
  | .call c => match c.callee with
    | .builtin .append => match c.args.toList, c.argTypes.toList with
      | [_, _], [t, u] => (elemOf P t).bind fun e => if (intOf P u).isSome then some (.appZ e.2, args) else if t = u then some (.appG e.1 e.2.length, args) else none
      | _, _ => none
    | .builtin .len => match c.args.toList, c.argTypes.toList with
      | [_], [t] => if isMapT P t then some (.lenM, args) else none
      | _, _ => none
    | .builtin .min => match c.args.toList with
      | [_, _] => some (.mm false, args)
      | _ => none
    | .builtin .max => match c.args.toList with
      | [_, _] => some (.mm true, args)
      | _ => none
    | .builtin .copy => match c.args.toList, c.argTypes.toList with
      | [_, _], [t, u] => if t = u ∧ (bytesOf P t).isSome then some (.cpy, args) else none
      | _, _ => none
    | .value _ => match args with
      | .s _ :: _ => some (.callV, args)
      | _ => none
    | _ => none
  | .makeSlice t _ _ => (elemOf P t).map fun e => (.mk e.1 e.2, args)
  | .slice t _ none none none => match P.underlying t with
    | some (.pointer a) => match P.underlying a with
      | some (.array n e) => if (sizeOfT P e).isSome then some (.sla n, args) else none
      | _ => none
    | some (.array n e) => if (sizeOfT P e).isSome then some (.sla n, args) else none
    | _ => none
  | .buildSlice t len parts => (elemOf P t).bind fun e => if parts.toList.map (·.1) = List.range len ∧ args.length = len ∧ len * e.2.length ≤ 65536 then some (.bslG e.2.length, args) else none
  | .makeInterface t _ => match P.underlying t with
    | some (.interface _) => none
    | some _ => some (.mkif t, args)
    | none => none
  | .makeFunc (.func f) first _ => if first.isEmpty then some (.mkfn f, args) else none
  | .makeMap _ none => some (.mkMap, args)
  | .mapUpdate t _ _ _ => match P.underlying t with
    | some (.map kt _) => if (intOf P kt).isSome then some (.mapSet, args) else none
    | _ => none
  | .lookup t _ _ false => match P.underlying t with
    | some (.map kt e) => if (intOf P kt).isSome then ((P.info? e).bind (·.zero)).map fun z => (.lookM z, args) else none
    | _ => none
  | .range t _ => if isMapT P t then some (.rangeM, args) else none
  | .next _ false => some (.nextM, args)
  | .entry _ => some (.entM, args)
  | _ => none

def isBoolT (t : TypeId) : Bool :=
  match P.underlying t with
  | some .bool => true
  | _ => false

/-- A struct's parts: where they lie, how wide they are. -/
def plsOf (fs : List Go.Field) : List Nat → Option (List (Nat × Nat))
  | [] => some []
  | i :: r => (fs[i]?).bind fun f => (sizeOfT P f.type).bind fun n => (plsOf fs r).map ((f.offset, n) :: ·)

/-- Arrays of whole numbers: how many, their kind. -/
def arrOf (t : TypeId) : Option (Nat × IntKind) :=
  match P.underlying t with
  | some (.array n e) => match P.underlying e, sizeOfT P e with
    | some (.int k), some 1 => if P.eqGuardType P.depth t = false then some (n, k) else none
    | _, _ => none
  | _ => none

/-- Texts and truths; what else there is, promises nothing. -/
def resC (o : Oper) (args : List SV) : Option (In × List SV) :=
  match o.op with
  | .binOp op t _ _ _ =>
    if isStr P t then (if op = .eql then some (.eqS false, args) else if op = .neq then some (.eqS true, args) else some (.bad, []))
    else if isBoolT P t then (if op = .eql then some (.eqB false, args) else if op = .neq then some (.eqB true, args) else some (.bad, []))
    else if (intOf P t).isSome && (op == .quo || op == .xor || op == .andNot) then some (.int2 op, args)
    else match arrOf P t with
      | some x => if op = .eql then some (.eqA x.1 x.2 false, args) else if op = .neq then some (.eqA x.1 x.2 true, args) else some (.bad, [])
      | none => some (.bad, [])
  | .unOp .neg t _ => if (intOf P t).isSome then some (.neg, args) else some (.bad, [])
  | .field t _ f => match P.underlying t with
    | some (.struct fs) => match fs[f]? with
      | some g => match isAggT P g.type, sizeOfT P g.type with
        | some true, some n => some (.fldN g.offset n, args)
        | some false, _ => some (.fld1 g.offset, args)
        | _, _ => some (.bad, [])
      | none => some (.bad, [])
    | _ => some (.bad, [])
  | .build t parts => match P.underlying t with
    | some (.struct fs) => match zeroAt P t, plsOf P fs.toList (parts.toList.map (·.1)) with
      | some z, some pls => if (fs.toList.all fun f => (sizeOfT P f.type).isSome) && args.length == pls.length then some (.litG z pls, args) else some (.bad, [])
      | _, _ => some (.bad, [])
    | some (.array _ e) => match zeroAt P t, sizeOfT P e with
      | some z, some _ => if parts.isEmpty then some (.litG z [], []) else some (.bad, [])
      | _, _ => some (.bad, [])
    | _ => some (.bad, [])
  | .slice t _ lo hi none => if isStr P t then some (.slS lo.isSome hi.isSome, args) else some (.bad, [])
  | .convert s d _ => if isStr P s && (bytesOf P d).isSome then some (.toByt, args) else some (.bad, [])
  | .call c => match c.callee with
    | .invoke _ m => some (.inv m, args)
    | .builtin .cap => match c.args.toList, c.argTypes.toList with
      | [_], [t] => if (sliceSz P t).isSome then some (.cap, args) else some (.bad, [])
      | _, _ => some (.bad, [])
    | _ => some (.bad, [])
  | _ => some (.bad, [])

def resX (o : Oper) (args : List SV) : Option (In × List SV) :=
  match resA P o args with
  | some x => some x
  | none => match resB P o args with
    | some x => some x
    | none => resC P o args

/-- Programs of such operations. -/
inductive NP where
  | nil
  | op (i : In) (args : List SV) (n : Nat) (k : NP)
  | chk (n : Nat) (k : NP)
  | set (n : Nat) (x : SV) (k : NP)
  | ite (c : SV) (a b k : NP)
  | loop (body k : NP)
  | keep (i : In) (args : List SV) (n : Nat) (k : NP)
  | look (i : In) (args : List SV) (n : Nat) (k : NP)
  | draw (k : NP)
  | flip (n : Nat) (k : NP)
  | exit
  | ret (xs : List SV)
  deriving Inhabited

def NP.wp (P : Program) : NP → (Out → (Nat → Value) → World → Prop) → (Nat → Value) → World → Prop
  | .nil, Q, η, w => Q .nrm η w
  | .op i args n k, Q, η, w => i.wp P (args.map (SV.val η)) w fun v w' => k.wp P Q (upd η n v) w'
  | .chk n k, Q, η, w => (∃ a, η n = .pointer (some a)) ∧ k.wp P Q η w
  | .set n x k, Q, η, w => k.wp P Q (upd η n (x.val η)) w
  | .ite c a b k, Q, η, w => ∃ t, c.val η = .bool t ∧
      (t = true → a.wp P (fun o η w => match o with
        | .nrm => k.wp P Q η w
        | o => Q o η w) η w) ∧
      (t = false → b.wp P (fun o η w => match o with
        | .nrm => k.wp P Q η w
        | o => Q o η w) η w)
  | .loop b k, Q, η, w => ∃ n, roundsP (b.wp P) (fun o η w => match o with
      | .ext => k.wp P Q η w
      | o => Q o η w) n η w
  | .keep i args n k, Q, η, w => i.wp P (args.map (SV.val η)) w (fun v w' => v = η n ∧ w' = w) ∧ k.wp P Q η w
  | .look i args n k, Q, η, w => i.wp P (args.map (SV.val η)) w (fun v w' => w' = w ∧ k.wp P Q (upd η n v) w')
  | .draw k, Q, η, w => k.wp P Q η { w with drawn := w.drawn + 1 }
  | .flip n k, Q, η, w => ∀ b : Bool, k.wp P Q (upd η n (.bool b)) w
  | .exit, Q, η, w => Q .ext η w
  | .ret xs, Q, η, w => Q (.ret (xs.map (SV.val η))) η w

def res : Prog → Option NP
  | .nil => some .nil
  | .op o args n k => (resX P o args).bind fun p => (res k).map fun q => .op p.1 p.2 n q
  | .chk n k => (res k).map (.chk n)
  | .set n x k => (res k).map (.set n x)
  | .ite c a b k => (res a).bind fun a' => (res b).bind fun b' => (res k).map fun k' => .ite c a' b' k'
  | .loop b k => (res b).bind fun b' => (res k).map fun k' => .loop b' k'
  | .keep o args n k => if lookB o = 2 then (resX P o args).bind fun p => (res k).map fun q => .keep p.1 p.2 n q else none
  | .look o args n k => if lookB o = 2 then (resX P o args).bind fun p => (res k).map fun q => .look p.1 p.2 n q else none
  | .draw k => (res k).map .draw
  | .flip n k => (res k).map (.flip n)
  | .exit => some .exit
  | .ret xs => some (.ret xs)

end
end Go.Nx

/- What operations with their types read promise, the model's operations do. -/
namespace Go.Nx
open Go.Lx
open Go.CX (pureRun isAggT sizeOfT run_isAgg run_sizeOf' pureRun_run)

section
variable {P : Program} {o : Oper} {w : World} {K : Value → World → Prop} {ρ : Operand → Value}

set_option linter.unusedSimpArgs false

theorem sizeOfT_info {t : TypeId} {n : Nat} (h : sizeOfT P t = some n) : (P.info? t).map (·.size) = some n := h

theorem load_ok {t : TypeId} {x : Operand} (ho : o.op = .load t x) (ha : isAggT P t = some false) (h : In.wp P .load [ρ x] w K) : uponK P K ((execOp ρ o).run P w) := by
  obtain ⟨a, v, h1, h2, h3⟩ := h
  simp only [List.cons.injEq, and_true] at h1
  have : (execOp ρ o).run P w = .ok (.value v) w := by
    simp [execOp, ho, h1, Instr.loadAt, Instr.sureAddr, loadVar, run_isAgg ha, h2]
  rw [this]
  exact h3

theorem loadN_ok {t : TypeId} {x : Operand} {n : Nat} (ho : o.op = .load t x) (ha : isAggT P t = some true) (hn : sizeOfT P t = some n) (h : In.wp P (.loadN n) [ρ x] w K) : uponK P K ((execOp ρ o).run P w) := by
  obtain ⟨b, off, cs, h1, h2, h3, h4⟩ := h
  simp only [List.cons.injEq, and_true] at h1
  have hl : (loadCells ⟨b, off, none⟩ cs.length).run P w = .ok cs.toArray w :=
    run_loadCells_list (P := P) w ⟨b, off, none⟩ cs (fun j v hv => by rw [Addr.add_mid]; exact h2 j v hv)
  have : (execOp ρ o).run P w = .ok (.value (.agg cs.toArray)) w := by
    rw [h3] at hl
    simp [execOp, ho, h1, Instr.loadAt, Instr.sureAddr, loadVar, run_isAgg ha, run_sizeOf' hn, hl]
  rw [this]
  exact h4

theorem store_ok {t : TypeId} {x y : Operand} {n : Nat} (ho : o.op = .store t x y) (hn : sizeOfT P t = some n) (h : In.wp P (.store n) [ρ x, ρ y] w K) : uponK P K ((execOp ρ o).run P w) := by
  obtain ⟨b, off, cs, e, v, h1, h2, h3, h4, h5, h6⟩ := h
  simp only [List.cons.injEq, and_true] at h1
  obtain ⟨e1, e2⟩ := h1
  have hl : v.cells.toList.length = n := by simpa using h3
  have hs := run_storeCells_at P b off e v.cells.toList 0 cs.toArray w h2 (by simp only [List.size_toArray]; omega) (fun u hu => (Array.all_eq_true_iff_forall_mem.1 h4) u (by simpa using hu))
  simp only [Nat.add_zero] at hs
  have : (execOp ρ o).run P w = .ok .skip (w.setRow b (cs.take off ++ v.cells.toList ++ cs.drop (off + n)).toArray) := by
    rw [← hl]
    simp [execOp, ho, e1, e2, Instr.storeAt, Instr.sureAddr, storeVar, run_sizeOf' hn, h3, hs]
  rw [this]
  exact h6

theorem isStr_eq {t : TypeId} (h : isStr P t = true) : P.underlying t = some .string := by
  unfold isStr at h
  split at h
  · assumption
  · cases h

theorem intOf_eq {t : TypeId} {k : IntKind} (h : intOf P t = some k) : P.underlying t = some (.int k) := by
  unfold intOf at h
  split at h
  · cases h; assumption
  · cases h

theorem sliceSz_eq {t : TypeId} {n : Nat} (h : sliceSz P t = some n) : ∃ e, P.underlying t = some (.slice e) ∧ sizeOfT P e = some n := by
  unfold sliceSz at h
  split at h
  · exact ⟨_, by assumption, h⟩
  · cases h

theorem bytesOf_eq {t e : TypeId} (h : bytesOf P t = some e) : P.underlying t = some (.slice e) ∧ P.underlying e = some (.int .u8) ∧ ∃ i, P.info? e = some i ∧ i.zero = some (.int .u8 0) ∧ i.size = 1 ∧ i.bytes = 1 := by
  unfold bytesOf at h
  split at h
  · rename_i e' he
    split at h
    · rename_i i hu hi
      split at h
      · rename_i n hz
        split at h
        · rename_i hn
          cases h
          obtain ⟨rfl, h2, h3⟩ := hn
          exact ⟨he, hu, i, hi, hz, h2, h3⟩
        · cases h
      · cases h
    · cases h
  · cases h

theorem len_ok {c : Call} {x : Operand} {t : TypeId} {n : Nat} (ho : o.op = .call c) (hc : c.callee = .builtin .len) (hx : c.args = #[x]) (ht : c.argTypes = #[t]) (hn : sliceSz P t = some n) (h : In.wp P .len [ρ x] w K) : uponK P K ((execOp ρ o).run P w) := by
  obtain ⟨a, m, k, h1, h2⟩ := h
  simp only [List.cons.injEq, and_true] at h1
  obtain ⟨e, he, _⟩ := sliceSz_eq hn
  have : (execOp ρ o).run P w = .ok (.value (goInt m)) w := by
    simp [execOp, ho, resolve, hc, hx, ht, h1, invoke, builtin, Builtin.len_, run_underlying he]
  rw [this]
  exact h2

theorem lenS_ok {c : Call} {x : Operand} {t : TypeId} (ho : o.op = .call c) (hc : c.callee = .builtin .len) (hx : c.args = #[x]) (ht : c.argTypes = #[t]) (hn : isStr P t = true) (h : In.wp P .lenS [ρ x] w K) : uponK P K ((execOp ρ o).run P w) := by
  obtain ⟨s, h1, h2⟩ := h
  simp only [List.cons.injEq, and_true] at h1
  have he := isStr_eq hn
  have : (execOp ρ o).run P w = .ok (.value (goInt s.size)) w := by
    simp [execOp, ho, resolve, hc, hx, ht, h1, invoke, builtin, Builtin.len_, run_underlying he]
  rw [this]
  exact h2

theorem grownBy_below {v : Value} {w' : World} {B : Nat} {e : TypeId} {n m : Nat} {xs : List Value} (ho : w.ownsRow B e m v n xs) (hB : B ≤ w.heap.size) (h : w.grownBy w' v.ownBlock) : RowKit.Below B w w' := by
  refine ⟨h.os, h.tape, h.output, h.size, fun k hk => h.block k (by omega) ?_⟩
  rcases ho.2 with ⟨rfl, _⟩ | ⟨g, cap, cur, rfl, hg, _⟩
  · simp [Value.ownBlock]
  · simp only [Value.ownBlock, ne_eq, Option.some.injEq]; omega

theorem gr_at {v v' : Value} (h : v'.ownBlock = v.ownBlock ∨ v'.ownBlock = some w.heap.size) : v'.ownBlock = v.ownBlock ∨ ∀ g, v'.ownBlock = some g → w.heap.size ≤ g :=
  h.imp id fun h g hg => by rw [h] at hg; cases hg; exact Nat.le_refl _

theorem app_ok {c : Call} {x y : Operand} {t e : TypeId} (ho : o.op = .call c) (hc : c.callee = .builtin .append) (hx : c.args = #[x, y]) (ht : c.argTypes = #[t, t]) (hb : bytesOf P t = some e)
    (h : In.wp P (.app e) [ρ x, ρ y] w K) : uponK P K ((execOp ρ o).run P w) := by
  rcases h with h | ⟨g, n, c', cs, a, bs, c2, h1, h2, h3, h4, h5, h6⟩
  case inr =>
    simp only [List.cons.injEq, and_true] at h1
    obtain ⟨e1, e2⟩ := h1
    obtain ⟨hu, hu8, i, hi, hz, hs1, hs2⟩ := bytesOf_eq hb
    have hr := run_append_room (P := P) w t o.type e i hu hi g n c' (List.toArray cs) h2 a bs.length c2 (bs.map u8) (by rw [hs1]; simp)
      (fun j u hj => by
        rw [List.getElem?_map, Option.map_eq_some_iff] at hj
        obtain ⟨b, hb, rfl⟩ := hj
        obtain ⟨hlt, rfl⟩ := List.getElem?_eq_some_iff.1 hb
        exact h3 j hlt)
      (fun u hu => by obtain ⟨b, _, rfl⟩ := List.mem_map.1 hu; rfl) h4 (by rw [hs1]; simpa using h5)
    simp only [hs1, Nat.mul_one, List.length_map] at hr
    have : (execOp ρ o).run P w = .ok (.value (.slice (some ⟨g, 0, none⟩) (n + bs.length) c')) (w.setRow g (cs.take n ++ bs.map u8 ++ cs.drop (n + bs.length)).toArray) := by
      simp [execOp, ho, resolve, hc, hx, ht, e1, e2, invoke, builtin, hr]
    rw [this]
    exact h6
  obtain ⟨B, v, n, xs, s, bs, h1, h2, h3, h4, h5, h6⟩ := h
  simp only [List.cons.injEq, and_true] at h1
  obtain ⟨e1, e2⟩ := h1
  obtain ⟨hu, hu8, i, hi, hz, hs1, hs2⟩ := bytesOf_eq hb
  have key : ∃ v' w', (Builtin.append_ #[t, t] o.type #[v, s]).run P w = .ok v' w' ∧ w'.ownsRow B e 1 v' (n + bs.length) (xs ++ bs.map u8) ∧ RowKit.Below B w w' ∧ (v' = .slice none 0 0 → v = .slice none 0 0 ∧ bs = []) ∧ Gr w v w' v' := by
    rcases h4 with ⟨rfl, rfl⟩ | ⟨a, cp, rfl, hbs⟩
    · refine ⟨v, w, ?_, by simpa using h2, RowKit.Below.refl _ _, fun h => ⟨h, rfl⟩, ⟨rfl, rfl, rfl, Nat.le_refl _, fun _ _ _ => rfl⟩, .inl rfl⟩
      exact run_append_owned_none (P := P) w B t o.type e i 1 hu hi v n xs h2
    · obtain ⟨v', w', k1, k2, k3, k4, k5⟩ := run_append_own_at (P := P) (w := w) B t o.type e i (.int .u8 0) 1 1 hu hi hz hs1 hs2 rfl (by omega) v n xs h2 a bs.length cp (bs.map u8) (by simp)
        (fun j u hj => by
          rw [List.getElem?_map, Option.map_eq_some_iff] at hj
          obtain ⟨b, hb, rfl⟩ := hj
          obtain ⟨hlt, rfl⟩ := List.getElem?_eq_some_iff.1 hb
          exact hbs j hlt)
        (fun u hu => by obtain ⟨b, _, rfl⟩ := List.mem_map.1 hu; rfl) (by simp only [maxLen]; omega) (by omega) h3
      exact ⟨v', w', k1, k2, grownBy_below h2 h3 k3, fun hv => ⟨(k4.1 hv).1, List.eq_nil_of_length_eq_zero (k4.1 hv).2⟩, k3, gr_at k5⟩
  obtain ⟨v', w', hr, k1, k2, k3, k4⟩ := key
  have : (execOp ρ o).run P w = .ok (.value v') w' := by
    simp [execOp, ho, resolve, hc, hx, ht, e1, e2, invoke, builtin, hr]
  rw [this]
  exact h6 v' w' k1 k2 k3 k4

/-- Whose row it is, when a text is appended. -/
theorem appS_own {t u ty e : TypeId} {i : TypeInfo} (ht : P.underlying t = some (.slice e)) (hu : P.underlying u = some .string) (hi : P.info? e = some i) (hz : i.zero = some (.int .u8 0)) (hs1 : i.size = 1) (hs2 : i.bytes = 1)
    {B n : Nat} {v v' : Value} {xs : List Value} {s : ByteArray} {w' : World} (ho : w.ownsRow B e 1 v n xs) (hl : n + s.size ≤ 140737488355328) (k4 : v' = .slice none 0 0 ↔ v = .slice none 0 0 ∧ s.size = 0)
    (hr : (Builtin.append_ #[t, u] ty #[v, .string s]).run P w = .ok v' w') : v'.ownBlock = v.ownBlock ∨ v'.ownBlock = some w.heap.size := by
  have hxl : xs.length = n := by simpa using ho.1
  rcases ho.2 with ⟨rfl, rfl⟩ | ⟨g, cap, cur, rfl, hbg, hg, hnc, hcm, hcs, htake⟩
  · by_cases hm : s.size = 0
    · rw [k4.2 ⟨rfl, hm⟩]; exact .inl rfl
    · have h := run_append_nil_string (P := P) w t u ty e i (.int .u8 0) ht hu hi hz s (by omega) (by omega) (by rw [hs2]; omega)
      rw [hr] at h
      cases h
      exact .inr rfl
  · by_cases hroom : n + s.size ≤ cap
    · have h := Lib.run_append_room_string (P := P) w t u ty e i ht hu hi hs1 g n cap cur hg s hroom (by omega)
      rw [hr] at h
      cases h
      exact .inl rfl
    · have holds : ∀ j u, xs[j]? = some u → w.cell? ((⟨g, 0, none⟩ : Addr).add j) = some u := ho.cells (g := g) rfl
      have h := Lib.run_append_grow_string (P := P) w t u ty e i (.int .u8 0) ht hu hi hz ⟨g, 0, none⟩ n cap xs (by rw [hs1]; simpa using hxl) holds s (by omega) (by omega) (by rw [hs2]; exact growslice_fits (by omega) (by omega))
      rw [hr] at h
      cases h
      exact .inr rfl

theorem appS_ok {c : Call} {x y : Operand} {t u e : TypeId} (ho : o.op = .call c) (hc : c.callee = .builtin .append) (hx : c.args = #[x, y]) (ht : c.argTypes = #[t, u]) (hb : bytesOf P t = some e) (hs : isStr P u = true)
    (h : In.wp P (.appS e) [ρ x, ρ y] w K) : uponK P K ((execOp ρ o).run P w) := by
  obtain ⟨B, v, n, xs, s, h1, h2, h3, h5, h6⟩ := h
  simp only [List.cons.injEq, and_true] at h1
  obtain ⟨e1, e2⟩ := h1
  obtain ⟨hu, hu8, i, hi, hz, hs1, hs2⟩ := bytesOf_eq hb
  obtain ⟨v', w', k1, k2, k3, k4⟩ := Lib.run_append_own_string (P := P) (w := w) B t u o.type e i hu (isStr_eq hs) hi hz hs1 hs2 v n xs h2 s (by simp only [maxLen]; omega) (by omega) h3
  have : (execOp ρ o).run P w = .ok (.value v') w' := by
    simp [execOp, ho, resolve, hc, hx, ht, e1, e2, invoke, builtin, k1]
  rw [this]
  refine h6 v' w' ?_ (grownBy_below h2 h3 k3) (fun hv => k4.1 hv) ⟨k3, gr_at (appS_own hu (isStr_eq hs) hi hz hs1 hs2 h2 (by omega) k4 k1)⟩
  have e : Lib.strCells s = s.data.toList.map u8 := by simp only [Lib.strCells]; rfl
  rw [← e]
  exact k2

theorem bin_ok {op : BinOp} {t yt : TypeId} {x y : Operand} (ho : o.op = .binOp op t x y yt) (h : In.wp P (.bin op) [ρ x, ρ y] w K) : uponK P K ((execOp ρ o).run P w) := by
  obtain ⟨k, a, b, v, h1, h2, h3⟩ := h
  simp only [List.cons.injEq, and_true] at h1
  obtain ⟨e1, e2⟩ := h1
  have : (execOp ρ o).run P w = .ok (.value v) w := by
    cases op <;> simp only [binV, Option.some.injEq, reduceCtorEq] at h2 <;> subst h2 <;> simp [execOp, ho, e1, e2, eqGuard, binOp, Op.intArith, Op.intCmp, Op.intBits]
  rw [this]
  exact h3

theorem cv_ok {s d : TypeId} {x : Operand} {k k' : IntKind} (ho : o.op = .convert s d x) (hd : intOf P d = some k) (hs : intOf P s = some k') (h : In.wp P (.cv k) [ρ x] w K) : uponK P K ((execOp ρ o).run P w) := by
  obtain ⟨k0, a, h1, h2⟩ := h
  simp only [List.cons.injEq, and_true] at h1
  have : (execOp ρ o).run P w = .ok (.value (.int k (k.wrap a))) w := by
    simp [execOp, ho, h1, convert, run_underlying (intOf_eq hd), run_underlying (intOf_eq hs), Conv.intToInt]
  rw [this]
  exact h2

theorem toStr_ok {s d e : TypeId} {x : Operand} (ho : o.op = .convert s d x) (hd : isStr P d = true) (hs : bytesOf P s = some e) (h : In.wp P .toStr [ρ x] w K) : uponK P K ((execOp ρ o).run P w) := by
  obtain ⟨v, bs, h1, h2, h3⟩ := h
  simp only [List.cons.injEq, and_true] at h1
  obtain ⟨hu, hu8, _⟩ := bytesOf_eq hs
  have : (execOp ρ o).run P w = .ok (.value (.string ⟨bs.toArray⟩)) w := by
    rcases h2 with ⟨rfl, rfl⟩ | ⟨a, c, rfl, hbs⟩
    · have := run_convert_bytes_nil (P := P) (w := w) s e hu hu8 0 0 d (isStr_eq hd)
      simp [execOp, ho, h1, this]
      rfl
    · have := run_convert_bytes_back (P := P) w s d e a c bs hu hu8 (isStr_eq hd) hbs
      simp [execOp, ho, h1, this]
  rw [this]
  exact h3

theorem not_ok {x : Operand} {t : TypeId} (ho : o.op = .unOp .not t x) (h : In.wp P .not [ρ x] w K) : uponK P K ((execOp ρ o).run P w) := by
  obtain ⟨b, h1, h2⟩ := h
  simp only [List.cons.injEq, and_true] at h1
  have : (execOp ρ o).run P w = .ok (.value (.bool (!b))) w := by
    simp [execOp, ho, h1, Op.unary]
  rw [this]
  exact h2

theorem ia_ok {t : TypeId} {x y : Operand} {n : Nat} (ho : o.op = .indexAddr t x y) (hn : sliceSz P t = some n) (h : In.wp P (.ia n) [ρ x, ρ y] w K) : uponK P K ((execOp ρ o).run P w) := by
  obtain ⟨a, m, c, k, i, h1, h2, h3⟩ := h
  simp only [List.cons.injEq, and_true] at h1
  obtain ⟨e1, e2⟩ := h1
  obtain ⟨e, he, hs⟩ := sliceSz_eq hn
  have : (execOp ρ o).run P w = .ok (.value (.pointer (some (a.add (i * n))))) w := by
    have h0 : (0 : Int) ≤ (i : Int) := Int.natCast_nonneg i
    have h4 : (i : Int) < (m : Int) := by omega
    simp [execOp, ho, e1, e2, Instr.indexAt, asIntOf, run_underlying he, run_sizeOf' hs, h0, h2]
  rw [this]
  exact h3

theorem ex_ok {x : Operand} {i : Nat} (ho : o.op = .extract x i) (h : In.wp P (.ex i) [ρ x] w K) : uponK P K ((execOp ρ o).run P w) := by
  obtain ⟨vs, v, h1, h2, h3⟩ := h
  simp only [List.cons.injEq, and_true] at h1
  have : (execOp ρ o).run P w = .ok (.value v) w := by
    simp [execOp, ho, h1, Instr.extract, h2]
  rw [this]
  exact h3

theorem alloc_ok {t : TypeId} {z : List Value} (ho : o.op = .alloc t) (hz : zeroAt P t = some z) (h : In.wp P (.alloc z) [] w K) : uponK P K ((execOp ρ o).run P w) := by
  simp only [zeroAt, Option.map_eq_some_iff, Option.bind_eq_some_iff] at hz
  obtain ⟨v, ⟨i, hi, hv⟩, rfl⟩ := hz
  have : (execOp ρ o).run P w = .ok (.value (.pointer (some ⟨w.heap.size, 0, none⟩))) (w.alloc (.cells v.cells t)) := by
    simp [execOp, ho, Instr.alloc, zeroValue, typeInfo, hi, hv, newVar, newRow]
  rw [this]
  have := h t
  simpa [uponK] using this

theorem run_bound {v : Value} {k : IntKind} {n y : Nat} (hv : v = .int k (n : Int)) (h : n ≤ y) (c : BoundsCode) (w : World) : (Instr.sliceBound v y c).run P w = .ok n w := by
  have h0 : (0 : Int) ≤ (n : Int) := Int.natCast_nonneg n
  have h1 : (n : Int) ≤ (y : Int) := by omega
  subst hv
  simp [Instr.sliceBound, asIntOf, h]

theorem sl_ok {t : TypeId} {x : Operand} {lo hi mx : Option Operand} {n : Nat} (ho : o.op = .slice t x lo hi mx) (hn : sliceSz P t = some n) (hm : mx.isSome = true → hi.isSome = true)
    (h : In.wp P (.sl n lo.isSome hi.isSome mx.isSome) (ρ x :: ((lo.map ρ).toList ++ (hi.map ρ).toList ++ (mx.map ρ).toList)) w K) : uponK P K ((execOp ρ o).run P w) := by
  obtain ⟨a, m, c, rest, h1, h2⟩ := h
  simp only [List.cons.injEq] at h1
  obtain ⟨e1, rfl⟩ := h1
  obtain ⟨e, he, hs⟩ := sliceSz_eq hn
  have hnotarr : ∀ n e', P.underlying t ≠ some (.array n e') := by rw [he]; intro n e'; simp
  have key : ∃ l hh mm, (Instr.sliceBounds true m c (lo.map ρ) (hi.map ρ) (mx.map ρ)).run P w = .ok (l, hh, mm) w ∧ K (.slice (if mm = l then a else a.map (·.add (l * n))) (hh - l) (mm - l)) w := by
    cases lo with
    | none =>
      cases hi with
      | none =>
        cases mx with
        | none =>
          simp only [bnd, Option.isSome_none, Bool.false_eq_true, if_false] at h2
          obtain ⟨_, h3, h4, h5, h6⟩ := h2
          exact ⟨0, m, c, by simp [Instr.sliceBounds], h6⟩
        | some z => simp at hm
      | some y =>
        cases mx with
        | none =>
          simp only [bnd, Option.isSome_none, Option.isSome_some, Bool.false_eq_true, if_false, if_true, Option.map_some, Option.map_none, Option.toList_none, Option.toList_some, List.nil_append, List.append_nil, List.cons.injEq] at h2
          obtain ⟨k, p, r, ⟨e3, rfl⟩, _, h3, h4, h5, h6⟩ := h2
          exact ⟨0, p, c, by simp [Instr.sliceBounds, run_bound e3 h4], h6⟩
        | some z =>
          simp only [bnd, Option.isSome_none, Option.isSome_some, Bool.false_eq_true, if_false, if_true, Option.map_some, Option.map_none, Option.toList_none, Option.toList_some, List.nil_append, List.append_nil, List.cons_append, List.cons.injEq] at h2
          obtain ⟨k, p, r, ⟨e3, rfl⟩, k', p', r', e4, _, h3, h4, h5, h6⟩ := h2
          exact ⟨0, p, p', by simp [Instr.sliceBounds, run_bound e3 h4, run_bound (List.cons.inj e4).1 h5], h6⟩
    | some v =>
      cases hi with
      | none =>
        cases mx with
        | none =>
          simp only [bnd, Option.isSome_none, Option.isSome_some, Bool.false_eq_true, if_false, if_true, Option.map_some, Option.map_none, Option.toList_none, Option.toList_some, List.nil_append, List.append_nil, List.cons.injEq] at h2
          obtain ⟨k, p, r, ⟨e3, rfl⟩, _, h3, h4, h5, h6⟩ := h2
          exact ⟨p, m, c, by simp [Instr.sliceBounds, run_bound e3 h3], h6⟩
        | some z => simp at hm
      | some y =>
        cases mx with
        | none =>
          simp only [bnd, Option.isSome_none, Option.isSome_some, Bool.false_eq_true, if_false, if_true, Option.map_some, Option.map_none, Option.toList_none, Option.toList_some, List.nil_append, List.append_nil, List.cons_append, List.cons.injEq] at h2
          obtain ⟨k, p, r, ⟨e3, rfl⟩, k', p', r', e4, _, h3, h4, h5, h6⟩ := h2
          exact ⟨p, p', c, by simp [Instr.sliceBounds, run_bound e3 h3, run_bound (List.cons.inj e4).1 h4], h6⟩
        | some z =>
          simp only [bnd, Option.isSome_none, Option.isSome_some, Bool.false_eq_true, if_false, if_true, Option.map_some, Option.map_none, Option.toList_none, Option.toList_some, List.nil_append, List.append_nil, List.cons_append, List.cons.injEq] at h2
          obtain ⟨k, p, r, ⟨e3, rfl⟩, k', p', r', e4, k'', p'', r'', e5, _, h3, h4, h5, h6⟩ := h2
          have e4' := List.cons.inj e4
          rw [← e4'.2] at e5
          exact ⟨p, p', p'', by simp [Instr.sliceBounds, run_bound e3 h3, run_bound e4'.1 h4, run_bound (List.cons.inj e5).1 h5], h6⟩
  obtain ⟨l, hh, mm, hr, hk⟩ := key
  have : (execOp ρ o).run P w = .ok (.value (.slice (if mm = l then a else a.map (·.add (l * n))) (hh - l) (mm - l))) w := by
    simp [execOp, ho, e1, Instr.sliceAt, Instr.slice, run_underlying he, hr, run_sizeOf' hs]
  rw [this]
  exact hk

end
end Go.Nx

/- More operations with their types read: shifts, comparisons with nil, literals. -/
namespace Go.Nx
open Go.Lx
open Go.CX (pureRun isAggT sizeOfT run_isAgg run_sizeOf' pureRun_run)

section
variable {P : Program} {o : Oper} {w : World} {K : Value → World → Prop} {ρ : Operand → Value}

theorem sh_ok {op : BinOp} {t yt : TypeId} {x y : Operand} (ho : o.op = .binOp op t x y yt) (h : In.wp P (.sh op) [ρ x, ρ y] w K) : uponK P K ((execOp ρ o).run P w) := by
  obtain ⟨k, a, k', n, v, h1, h2, h3⟩ := h
  simp only [List.cons.injEq, and_true] at h1
  obtain ⟨e1, e2⟩ := h1
  have hn : ¬ ((n : Int) < 0) := by omega
  have : (execOp ρ o).run P w = .ok (.value v) w := by
    cases op <;> simp only [shV, Option.some.injEq, reduceCtorEq] at h2 <;> subst h2 <;> simp [execOp, ho, e1, e2, eqGuard, binOp, Op.shift, hn]
  rw [this]
  exact h3

theorem nil_eqIn (d : Nat) {t : TypeId} {c v : Value} {k : Nat} {b : Bool} (hf : nilFits P t c = some k) (hv : nilV k v = some b) (w : World) : (Op.equalIn (d + 1) t v c).run P w = .ok b w := by
  unfold nilFits at hf
  split at hf
  · rename_i e hu
    cases hf
    cases v with
    | pointer a => simp only [nilV, Option.some.injEq] at hv; subst hv; cases a <;> simp [Op.equalIn, run_underlying hu]
    | _ => simp [nilV] at hv
  · rename_i e l m hu
    cases hf
    cases v with
    | slice a l m => simp only [nilV, Option.some.injEq] at hv; subst hv; cases a <;> simp [Op.equalIn, run_underlying hu]
    | _ => simp [nilV] at hv
  · rename_i ms hu
    cases hf
    cases v with
    | iface t v => simp only [nilV, Option.some.injEq] at hv; subst hv; simp [Op.equalIn, run_underlying hu]
    | nilIface => simp only [nilV, Option.some.injEq] at hv; subst hv; simp [Op.equalIn, run_underlying hu]
    | _ => simp [nilV] at hv
  · cases hf

theorem nil_eq {t : TypeId} {c v : Value} {k : Nat} {b : Bool} (hf : nilFits P t c = some k) (hv : nilV k v = some b) (w : World) : (Op.equal t v c).run P w = .ok b w :=
  nil_eqIn 9999 hf hv w

theorem nil_guard {op : BinOp} {t : TypeId} {x : Operand} {c0 c v : Value} {k : Nat} {b : Bool} (hf : nilFits P t c = some k) (hv : nilV k v = some b) (w : World) : (eqGuard op t x (.const c0) v c).run P w = .ok () w := by
  unfold nilFits at hf
  split at hf
  · cases hf
    cases v with
    | pointer a => cases op <;> rfl
    | _ => simp [nilV] at hv
  · cases hf
    cases v with
    | slice a l m => cases op <;> rfl
    | _ => simp [nilV] at hv
  · cases hf
    cases v with
    | iface t v => cases op <;> rfl
    | nilIface => cases op <;> (unfold eqGuard; simp)
    | _ => simp [nilV] at hv
  · cases hf

theorem isNil_ok {op : BinOp} {t yt : TypeId} {x : Operand} {c0 c : Value} {k : Nat} {neq : Bool} (ho : o.op = .binOp op t x (.const c0) yt) (hop : op = if neq then .neq else .eql) (hf : nilFits P t c = some k) (hc : ρ (.const c0) = c)
    (h : In.wp P (.isNil k neq) [ρ x] w K) : uponK P K ((execOp ρ o).run P w) := by
  obtain ⟨v, b, h1, h2, h3⟩ := h
  simp only [List.cons.injEq, and_true] at h1
  have hg := nil_guard (op := op) (x := x) (c0 := c0) hf h2 w
  have he := nil_eq hf h2 w
  have hb : (binOp op t v c).run P w = .ok (.bool (b != neq)) w := by
    subst hop
    unfold nilFits at hf
    split at hf
    · cases hf
      cases v <;> simp_all [nilV]
      cases neq <;> simp [binOp, he]
    · cases hf
      cases v <;> simp_all [nilV]
      cases neq <;> simp [binOp, he]
    · cases hf
      cases v <;> simp_all [nilV]
      all_goals cases neq <;> simp [binOp, he]
    · cases hf
  have : (execOp ρ o).run P w = .ok (.value (.bool (b != neq))) w := by
    simp [execOp, ho, h1, hc, hg, hb]
  rw [this]
  exact h3

theorem idxS_ok {t : TypeId} {x y : Operand} (ho : o.op = .index t x y) (ht : isStr P t = true) (h : In.wp P .idxS [ρ x, ρ y] w K) : uponK P K ((execOp ρ o).run P w) := by
  obtain ⟨s, k, i, b, h1, h2, h3⟩ := h
  simp only [List.cons.injEq, and_true] at h1
  obtain ⟨e1, e2⟩ := h1
  have : (execOp ρ o).run P w = .ok (.value (u8 b)) w := by
    have h0 : (0 : Int) ≤ (i : Int) := Int.natCast_nonneg i
    simp [execOp, ho, e1, e2, Instr.index, asIntOf, run_underlying (isStr_eq ht), h0, h2, u8]
  rw [this]
  exact h3

theorem length_putAll : ∀ (ps : List (Nat × Value)) (z : List Value), (putAll z ps).length = z.length := by
  intro ps
  induction ps with
  | nil => intro z; rfl
  | cons p r ih => intro z; obtain ⟨o, v⟩ := p; simp [putAll, ih]

theorem fill_ones {place : Nat → Option (Nat × Nat)} : ∀ (is : List Nat) (offs : List Nat) (vs : List Value) (z : List Value), is.length = vs.length → offs.length = vs.length → (∀ j (h : j < is.length) (h' : j < offs.length), place is[j] = some (offs[j], 1)) →
    (∀ o ∈ offs, o < z.length) → (∀ v ∈ vs, v.cells.toList = [v]) → Instr.fill place z.toArray (is.zip vs) = some (putAll z (offs.zip vs)).toArray := by
  intro is
  induction is with
  | nil => intro offs vs z h1 h2 _ _ _; have : vs = [] := List.eq_nil_of_length_eq_zero h1.symm; subst this; simp [Instr.fill, putAll]
  | cons i r ih =>
    intro offs vs z h1 h2 hp ho hv
    cases vs with
    | nil => simp at h1
    | cons v vs =>
      cases offs with
      | nil => simp at h2
      | cons off offs =>
        have hpl := hp 0 (by simp) (by simp)
        simp only [List.getElem_cons_zero] at hpl
        have hvc := hv v (by simp)
        have hvs : v.cells = #[v] := by apply Array.ext'; simpa using hvc
        have hoff := ho off (by simp)
        simp only [List.zip_cons_cons, Instr.fill, hpl, hvs]
        have hle : ¬ (off + 1 > z.length) := by omega
        simp only [List.size_toArray, ne_eq, List.length_cons, List.length_nil, Nat.zero_add, not_true, decide_false, hle, Bool.or_self, Bool.false_eq_true, if_false]
        have hz : (([v] : List Value).toArray.zipIdx.foldl (fun cs (x : Value × Nat) => cs.setIfInBounds (off + x.2) x.1) z.toArray) = (z.set off v).toArray := by simp
        have hz' : (Array.foldl (fun cs x => match x with | (c, j) => cs.setIfInBounds (off + j) c) z.toArray (#[v] : Array Value).zipIdx) = (z.set off v).toArray := by simp
        rw [hz']
        exact ih offs vs (z.set off v) (by simpa using h1) (by simpa using h2) (fun j h h' => by have := hp (j + 1) (by simpa using h) (by simpa using h'); simpa using this)
          (fun o h => by simpa using ho o (List.mem_cons_of_mem _ h)) (fun u h => hv u (List.mem_cons_of_mem _ h))

theorem putAll_range : ∀ (vs z pre : List Value), z.length = vs.length → putAll (pre ++ z) ((List.range' pre.length vs.length).zip vs) = pre ++ vs := by
  intro vs
  induction vs with
  | nil => intro z pre h; have : z = [] := List.eq_nil_of_length_eq_zero h; subst this; simp [putAll]
  | cons v vs ih =>
    intro z pre h
    cases z with
    | nil => simp at h
    | cons x z =>
      simp only [List.length_cons, List.range'_succ, List.zip_cons_cons, putAll]
      have : (pre ++ x :: z).set pre.length v = (pre ++ [v]) ++ z := by simp
      rw [this]
      have hi := ih z (pre ++ [v]) (by simpa using h)
      simp only [List.length_append, List.length_cons, List.length_nil] at hi
      rw [hi]
      simp

theorem bsl_ok {t e : TypeId} {len : Nat} {parts : Array (Nat × Operand)} (ho : o.op = .buildSlice t len parts) (hb : bytesOf P t = some e) (hp : parts.toList.map (·.1) = List.range len) (hl : len ≤ 65536)
    (h : In.wp P (.bsl e) (parts.toList.map fun p => ρ p.2) w K) : uponK P K ((execOp ρ o).run P w) := by
  obtain ⟨h1, h2⟩ := h
  obtain ⟨hu, hu8, i, hi, hz, hs1, hs2⟩ := bytesOf_eq hb
  have hplen : parts.toList.length = len := by have := congrArg List.length hp; simpa using this
  have hparts : (parts.map fun (p : Nat × Operand) => (p.1, ρ p.2)).toList = (List.range len).zip (parts.toList.map fun p => ρ p.2) := by
    rw [← hp]
    simp only [Array.toList_map]
    generalize parts.toList = l
    induction l with
    | nil => rfl
    | cons p r ih => simp [ih]
  have hzero : ((Array.range (len * 1)).map ((Value.int .u8 0).cells[· % (Value.int .u8 0).cells.size]!)) = (List.replicate len (Value.int .u8 0)).toArray := by
    apply Array.ext
    · simp
    · intro j h1 h2
      have hc : (Value.int IntKind.u8 0).cells = #[Value.int .u8 0] := rfl
      simp [hc, Nat.mod_one]
  have hfill : Instr.fill (fun i => some (i * 1, 1)) (List.replicate len (Value.int .u8 0)).toArray ((List.range len).zip (parts.toList.map fun p => ρ p.2)) = some (parts.toList.map fun p => ρ p.2).toArray := by
    have := fill_ones (place := fun i => some (i * 1, 1)) (List.range len) (List.range len) (parts.toList.map fun p => ρ p.2) (List.replicate len (Value.int .u8 0)) (by simpa using hplen.symm) (by simpa using hplen.symm)
      (fun j h h' => by simp) (fun o h => by simpa using h) (fun v hv => by obtain ⟨n, rfl⟩ := h1 v hv; rfl)
    rw [this]
    have hr := putAll_range (parts.toList.map fun p => ρ p.2) (List.replicate len (Value.int .u8 0)) [] (by simp [hplen])
    simp only [List.nil_append, List.length_nil, List.length_map, hplen] at hr
    rw [← List.range_eq_range'] at hr
    rw [hr]
  have : (execOp ρ o).run P w = .ok (.value (.slice (some ⟨w.heap.size, 0, none⟩) len len)) (w.alloc (.cells (parts.toList.map fun p => ρ p.2).toArray e)) := by
    have hns : ¬ (len * 1 > 2 ^ 24) := by omega
    have hcells : ∀ z : Array Value, z = (if len * 1 = 0 then #[] else (Value.int .u8 0).cells) → ((Array.range (len * 1)).map (z[· % z.size]!)) = (List.replicate len (Value.int .u8 0)).toArray := by
      intro z hz
      by_cases h0 : len = 0
      · subst h0; simp
      · rw [hz, if_neg (by omega)]; exact hzero
    by_cases h0 : len * 1 = 0
    · have hc := hcells #[] (by rw [if_pos h0])
      simp only [execOp, ho, Instr.buildSlice, Sem.run_bind, run_underlying hu, Result.andThen_ok, sizeOf, typeInfo, run_program, hi, Sem.run_pure, hs1, hns, if_false, if_pos h0]
      rw [hparts, hc, hfill]
      simp [newRow]
    · have hc := hcells (Value.int .u8 0).cells (by rw [if_neg h0])
      simp only [execOp, ho, Instr.buildSlice, Sem.run_bind, run_underlying hu, Result.andThen_ok, sizeOf, typeInfo, zeroValue, run_program, hi, hz, Sem.run_pure, hs1, hns, if_false, if_neg h0]
      rw [hparts, hc, hfill]
      simp [newRow]
  rw [this]
  have hlen : (parts.toList.map fun p => ρ p.2).length = len := by simp [hplen]
  rw [hlen] at h2
  exact h2

theorem offsOf_ok {fs : List Go.Field} : ∀ {is : List Nat} {offs : List Nat}, offsOf P fs is = some offs → offs.length = is.length ∧ ∀ j (h : j < is.length) (h' : j < offs.length), ∃ f, fs[is[j]]? = some f ∧ sizeOfT P f.type = some 1 ∧ f.offset = offs[j] := by
  intro is
  induction is with
  | nil => intro offs h; simp only [offsOf, Option.some.injEq] at h; subst h; exact ⟨rfl, fun j h => by simp at h⟩
  | cons i r ih =>
    intro offs h
    simp only [offsOf, Option.bind_eq_some_iff] at h
    obtain ⟨f, hf, h⟩ := h
    split at h
    · rename_i hsz
      simp only [Option.map_eq_some_iff] at h
      obtain ⟨offs', h', rfl⟩ := h
      obtain ⟨k1, k2⟩ := ih h'
      refine ⟨by simp [k1], fun j hj hj' => ?_⟩
      cases j with
      | zero => exact ⟨f, by simpa using hf, hsz, rfl⟩
      | succ j => simpa using k2 j (by simpa using hj) (by simpa using hj')
    · cases h

theorem run_placesOf {fs : List Go.Field} (h : fs.all (fun f => (sizeOfT P f.type).isSome) = true) (w : World) :
    (fs.mapM fun (f : Go.Field) => (do pure (f.offset, ← sizeOf f.type) : Sem (Nat × Nat))).run P w = .ok (fs.map fun f => (f.offset, (sizeOfT P f.type).getD 0)) w := by
  induction fs with
  | nil => rfl
  | cons f r ih =>
    simp only [List.all_cons, Bool.and_eq_true] at h
    obtain ⟨n, hn⟩ := Option.isSome_iff_exists.1 h.1
    have ih' := ih h.2
    simp only [List.mapM_cons, Sem.run_bind, Sem.run_pure, Result.andThen_ok, run_sizeOf' hn, ih', List.map_cons, hn, Option.getD_some]

theorem lit_ok {t : TypeId} {parts : Array (Nat × Operand)} {fs : Array Go.Field} {z : List Value} {offs : List Nat} (ho : o.op = .build t parts) (hu : P.underlying t = some (.struct fs)) (hz : zeroAt P t = some z)
    (hoffs : offsOf P fs.toList (parts.toList.map (·.1)) = some offs) (hall : (fs.toList.all fun f => (sizeOfT P f.type).isSome) = true) (hlt : offs.all (fun o => o < z.length) = true)
    (h : In.wp P (.lit z offs) (parts.toList.map fun p => ρ p.2) w K) : uponK P K ((execOp ρ o).run P w) := by
  obtain ⟨h1, h2, h3⟩ := h
  simp only [zeroAt, Option.map_eq_some_iff, Option.bind_eq_some_iff] at hz
  obtain ⟨v, ⟨i, hi, hv⟩, rfl⟩ := hz
  obtain ⟨k1, k2⟩ := offsOf_ok hoffs
  have hparts : (parts.map fun (p : Nat × Operand) => (p.1, ρ p.2)).toList = (parts.toList.map (·.1)).zip (parts.toList.map fun p => ρ p.2) := by
    simp only [Array.toList_map]
    generalize parts.toList = l
    induction l with
    | nil => rfl
    | cons p r ih => simp [ih]
  have hfill : Instr.fill (fun x => (fs.toList.map fun f => (f.offset, (sizeOfT P f.type).getD 0))[x]?) v.cells.toList.toArray ((parts.toList.map (·.1)).zip (parts.toList.map fun p => ρ p.2)) = some (putAll v.cells.toList (offs.zip (parts.toList.map fun p => ρ p.2))).toArray := by
    refine fill_ones _ offs _ _ (by simp) (by simpa using k1) (fun j hj hj' => ?_) (fun o h => by simpa using List.all_eq_true.1 hlt o h) (fun u hu => (h2 u hu).2)
    obtain ⟨f, e1, e2, e3⟩ := k2 j hj hj'
    simp only [List.getElem?_map, e1, Option.map_some, e2, e3, Option.getD_some]
  have hpl := run_placesOf hall w
  have : (execOp ρ o).run P w = .ok (.value (.agg (putAll v.cells.toList (offs.zip (parts.toList.map fun p => ρ p.2))).toArray)) w := by
    simp only [Array.toArray_toList] at hfill
    simp only [execOp, ho, Instr.build, Sem.run_bind, zeroValue, typeInfo, run_program, Result.andThen_ok, hi, Sem.run_pure, hv, run_underlying hu]
    rw [Array.mapM_eq_mapM_toList]
    simp only [Sem.run_map, hpl, Result.andThen_ok]
    have e : (fun (x : Nat) => (fs.toList.map fun f => (f.offset, (sizeOfT P f.type).getD 0)).toArray[x]?) = (fun (x : Nat) => (fs.toList.map fun f => (f.offset, (sizeOfT P f.type).getD 0))[x]?) := by funext x; simp
    rw [hparts]
    simp only [e, hfill]
    rfl
  rw [this]
  exact h3

end
end Go.Nx

/- Yet more operations with their types read: zeros appended, literals of wide elements, functions' values, maps. -/
namespace Go.Nx
open Go.Lx
open Go.CX (pureRun isAggT sizeOfT run_isAgg run_sizeOf' pureRun_run)

section
variable {P : Program} {o : Oper} {w : World} {K : Value → World → Prop} {ρ : Operand → Value}

theorem run_getM {r : Nat} {es : Array MapEntry} {cl : Nat} (h : w.heap[r]? = some (.map es cl)) : (getObj r).run P w = .ok (.map es cl) w := by simp [getObj, Sem.run, h]
theorem run_setM {r : Nat} {es : Array MapEntry} {cl : Nat} {ob' : Obj} (h : w.heap[r]? = some (.map es cl)) : (setObj r ob').run P w = .ok () (setO w r ob') := by simp [setObj, Sem.run, h, setO]
theorem run_getI {r : Nat} {m : Option Nat} {s c : Nat} {seen : Array Nat} (h : w.heap[r]? = some (.mapIter m s seen c)) : (getObj r).run P w = .ok (.mapIter m s seen c) w := by simp [getObj, Sem.run, h]
theorem run_setI {r : Nat} {m : Option Nat} {s c : Nat} {seen : Array Nat} {ob' : Obj} (h : w.heap[r]? = some (.mapIter m s seen c)) : (setObj r ob').run P w = .ok () (setO w r ob') := by simp [setObj, Sem.run, h, setO]

theorem isMapT_eq {t : TypeId} (h : isMapT P t = true) : ∃ k e, P.underlying t = some (.map k e) := by
  unfold isMapT at h
  split at h
  · exact ⟨_, _, by assumption⟩
  · cases h

theorem elemOf_eq {t : TypeId} {e : TypeId × List Value} (h : elemOf P t = some e) : P.underlying t = some (.slice e.1) ∧ ∃ i z, P.info? e.1 = some i ∧ i.zero = some z ∧ z.cells.toList = e.2 ∧ e.2.length = i.size ∧ 0 < i.size ∧ i.bytes ≤ 65536 ∧ i.size ≤ i.bytes ∧ (∀ u ∈ e.2, u.oneCell' = true) := by
  unfold elemOf at h
  split at h
  · rename_i e' he
    split at h
    · rename_i i hi
      split at h
      · rename_i z hz
        split at h
        · rename_i hc
          cases h
          obtain ⟨h1, h2, h3, h4, h5⟩ := hc
          refine ⟨he, i, z, hi, hz, rfl, by simpa using h1, h2, h3, h4, fun u hu => ?_⟩
          exact (Array.all_eq_true_iff_forall_mem.1 h5) u (by simpa using hu)
        · cases h
      · cases h
    · cases h
  · cases h

theorem box_ok {t : TypeId} {x : Operand} {n : Nat} (ho : o.op = .box t x) (h : In.wp P (.box n) [ρ x] w K) : uponK P K ((execOp ρ o).run P w) := by
  obtain ⟨v, h1, h2, h3⟩ := h
  simp only [List.cons.injEq, and_true] at h1
  have : (execOp ρ o).run P w = .ok (.value (.pointer (some ⟨w.heap.size, 0, none⟩))) (w.alloc (.cells v.cells t)) := by
    simp [execOp, ho, h1, Instr.box, newVar, newRow]
  rw [this]
  exact h3 t

theorem rem_ok {t yt : TypeId} {x y : Operand} (ho : o.op = .binOp .rem t x y yt) (h : In.wp P .rem [ρ x, ρ y] w K) : uponK P K ((execOp ρ o).run P w) := by
  obtain ⟨k, a, b, h1, h2, h3⟩ := h
  simp only [List.cons.injEq, and_true] at h1
  obtain ⟨e1, e2⟩ := h1
  have : (execOp ρ o).run P w = .ok (.value (.int k (a.tmod b))) w := by
    simp [execOp, ho, e1, e2, eqGuard, binOp, Op.intDiv, h2]
  rw [this]
  exact h3

theorem isNilM_ok {op : BinOp} {t yt : TypeId} {x : Operand} {neq : Bool} (ho : o.op = .binOp op t x (.const (.map none)) yt) (hop : op = if neq then .neq else .eql) (hm : isMapT P t = true) (hc : ρ (.const (.map none)) = .map none)
    (h : In.wp P (.isNil 3 neq) [ρ x] w K) : uponK P K ((execOp ρ o).run P w) := by
  obtain ⟨v, b, h1, h2, h3⟩ := h
  simp only [List.cons.injEq, and_true] at h1
  obtain ⟨k, e, hu⟩ := isMapT_eq hm
  have he : ∀ d w, (Op.equalIn (d + 1) t v (.map none)).run P w = .ok b w := by
    intro d w
    cases v with
    | map a => simp only [nilV, Option.some.injEq] at h2; subst h2; cases a <;> simp [Op.equalIn, run_underlying hu]
    | _ => simp [nilV] at h2
  have he' : (Op.equal t v (.map none)).run P w = .ok b w := he 9999 w
  have : (execOp ρ o).run P w = .ok (.value (.bool (b != neq))) w := by
    cases v with
    | map a =>
      have hg : ∀ op, (eqGuard op t x (.const (.map none)) (.map a) (.map none)).run P w = .ok () w := fun op => by cases op <;> rfl
      subst hop
      cases neq <;> simp [execOp, ho, h1, hc, hg, binOp, he']
    | _ => simp [nilV] at h2
  rw [this]
  exact h3

theorem lenM_ok {c : Call} {x : Operand} {t : TypeId} (ho : o.op = .call c) (hc : c.callee = .builtin .len) (hx : c.args = #[x]) (ht : c.argTypes = #[t]) (hm : isMapT P t = true) (h : In.wp P .lenM [ρ x] w K) : uponK P K ((execOp ρ o).run P w) := by
  obtain ⟨k, e, hu⟩ := isMapT_eq hm
  rcases h with ⟨h1, h2⟩ | ⟨r, es, cl, h1, h2, h3⟩
  · simp only [List.cons.injEq, and_true] at h1
    have : (execOp ρ o).run P w = .ok (.value (goInt 0)) w := by
      simp [execOp, ho, resolve, hc, hx, ht, h1, invoke, builtin, Builtin.len_, run_underlying hu]
    rw [this]
    exact h2
  · simp only [List.cons.injEq, and_true] at h1
    have : (execOp ρ o).run P w = .ok (.value (goInt es.size)) w := by
      simp [execOp, ho, resolve, hc, hx, ht, h1, invoke, builtin, Builtin.len_, run_underlying hu, run_getM h2]
    rw [this]
    exact h3

theorem mm_ok {c : Call} {x y : Operand} {mx : Bool} (ho : o.op = .call c) (hc : c.callee = .builtin (if mx then .max else .min)) (hx : c.args = #[x, y]) (h : In.wp P (.mm mx) [ρ x, ρ y] w K) : uponK P K ((execOp ρ o).run P w) := by
  obtain ⟨k, a, b, h1, h2⟩ := h
  simp only [List.cons.injEq, and_true] at h1
  obtain ⟨e1, e2⟩ := h1
  have : (execOp ρ o).run P w = .ok (.value (.int k (if mx then max a b else min a b))) w := by
    cases mx
    · have e : (if b < a then b else a) = min a b := by omega
      simp [execOp, ho, resolve, hc, hx, e1, e2, invoke, builtin, Builtin.min_, Builtin.min2, e]
    · have e : (if a < b then b else a) = max a b := by omega
      simp [execOp, ho, resolve, hc, hx, e1, e2, invoke, builtin, Builtin.max_, Builtin.max2, e]
  rw [this]
  exact h2

theorem sla_ok {t a e : TypeId} {x : Operand} {n : Nat} (ho : o.op = .slice t x none none none) (ht : P.underlying t = some (.pointer a)) (ha : P.underlying a = some (.array n e)) (he : (sizeOfT P e).isSome = true) (h : In.wp P (.sla n) [ρ x] w K) : uponK P K ((execOp ρ o).run P w) := by
  obtain ⟨ad, h1, h2⟩ := h
  simp only [List.cons.injEq, and_true] at h1
  obtain ⟨m, hm⟩ := Option.isSome_iff_exists.1 he
  have : (execOp ρ o).run P w = .ok (.value (.slice (some ad) n n)) w := by
    have e0 : ad.add 0 = ad := by simp [Addr.add]
    simp [execOp, ho, h1, Instr.sliceAt, Instr.slice, run_underlying ht, run_underlying ha, Instr.sliceBounds, run_sizeOf' hm, asAddr, e0]
  rw [this]
  exact h2

theorem sla_ok' {t e : TypeId} {x : Operand} {n : Nat} (ho : o.op = .slice t x none none none) (ht : P.underlying t = some (.array n e)) (he : (sizeOfT P e).isSome = true) (h : In.wp P (.sla n) [ρ x] w K) : uponK P K ((execOp ρ o).run P w) := by
  obtain ⟨ad, h1, h2⟩ := h
  simp only [List.cons.injEq, and_true] at h1
  obtain ⟨m, hm⟩ := Option.isSome_iff_exists.1 he
  have : (execOp ρ o).run P w = .ok (.value (.slice (some ad) n n)) w := by
    have e0 : ad.add 0 = ad := by simp [Addr.add]
    simp [execOp, ho, h1, Instr.sliceAt, run_underlying ht, Instr.sliceBounds, run_sizeOf' hm, Instr.sureAddr, e0]
  rw [this]
  exact h2

theorem entM_ok {x : Operand} (ho : o.op = .entry x) (h : In.wp P .entM [ρ x] w K) : uponK P K ((execOp ρ o).run P w) := by
  obtain ⟨b, r, s, seen, cl, es, e, born, h1, h2, h3, h4, h5, h6⟩ := h
  simp only [List.cons.injEq, and_true] at h1
  have : (execOp ρ o).run P w = .ok (.value (.tuple #[e.key, e.val])) w := by
    simp [execOp, ho, h1, Instr.entry, run_getI h2, run_getM h3, h4, h5]
  rw [this]
  exact h6

theorem mkif_ok {t : TypeId} {x : Operand} {d : TypeDesc} (ho : o.op = .makeInterface t x) (hu : P.underlying t = some d) (hd : ∀ ms, d ≠ .interface ms) (h : In.wp P (.mkif t) [ρ x] w K) : uponK P K ((execOp ρ o).run P w) := by
  obtain ⟨v, h1, h2⟩ := h
  simp only [List.cons.injEq, and_true] at h1
  have : (execOp ρ o).run P w = .ok (.value (.iface t v)) w := by
    cases d <;> first
      | exact (hd _ rfl).elim
      | simp [execOp, ho, h1, Instr.makeInterface, run_underlying hu]
  rw [this]
  exact h2

theorem mkfn_ok {f : FuncId} {caps : Array Operand} (ho : o.op = .makeFunc (.func f) #[] caps) (h : In.wp P (.mkfn f) (caps.toList.map ρ) w K) : uponK P K ((execOp ρ o).run P w) := by
  have h : K (.func (.func f) #[] (caps.toList.map ρ).toArray) w := h
  have e : (caps.toList.map ρ).toArray = caps.map ρ := by apply Array.ext'; rw [Array.toList_map]
  rw [e] at h
  have : (execOp ρ o).run P w = .ok (.value (.func (.func f) #[] (caps.map ρ))) w := by
    simp [execOp, ho, Instr.makeFunc]
  rw [this]
  exact h

theorem mkMap_ok {t : TypeId} (ho : o.op = .makeMap t none) (h : In.wp P .mkMap [] w K) : uponK P K ((execOp ρ o).run P w) := by
  have h : K (.map (some w.heap.size)) (w.alloc (.map #[] 0)) := h
  have : (execOp ρ o).run P w = .ok (.value (.map (some w.heap.size))) (w.alloc (.map #[] 0)) := by
    simp [execOp, ho, Instr.makeMap]
  rw [this]
  exact h

theorem rangeM_ok {t : TypeId} {x : Operand} (ho : o.op = .range t x) (hm : isMapT P t = true) (h : In.wp P .rangeM [ρ x] w K) : uponK P K ((execOp ρ o).run P w) := by
  obtain ⟨k, e, hu⟩ := isMapT_eq hm
  rcases h with ⟨h1, h3⟩ | ⟨r, es, cl, h1, h2, h3⟩
  · simp only [List.cons.injEq, and_true] at h1
    have : (execOp ρ o).run P w = .ok (.value (.pointer (some ⟨w.heap.size, 0, none⟩))) (w.alloc (.mapIter none 0 #[] 0)) := by
      simp [execOp, ho, h1, Instr.range, run_underlying hu]
    rw [this]
    exact h3
  simp only [List.cons.injEq, and_true] at h1
  have : (execOp ρ o).run P w = .ok (.value (.pointer (some ⟨w.heap.size, 0, none⟩))) (w.alloc (.mapIter (some r) cl #[] cl)) := by
    simp [execOp, ho, h1, Instr.range, run_underlying hu, run_getM h2]
  rw [this]
  exact h3

theorem mk_ok {t : TypeId} {x y : Operand} {e : TypeId × List Value} (ho : o.op = .makeSlice t x y) (he : elemOf P t = some e) (h : In.wp P (.mk e.1 e.2) [ρ x, ρ y] w K) : uponK P K ((execOp ρ o).run P w) := by
  obtain ⟨k, n, k', m, h1, h2, h3, h4⟩ := h
  simp only [List.cons.injEq, and_true] at h1
  obtain ⟨e1, e2⟩ := h1
  obtain ⟨hu, i, z, hi, hz, hzc, hsz, hpos, hb, hsb, _⟩ := elemOf_eq he
  have hzsz : z.cells.size = i.size := by rw [← hsz, ← hzc]; simp
  have hcells : (Array.range (m * i.size)).map (fun j => z.cells[j % z.cells.size]!) = (List.replicate m e.2).flatten.toArray := by
    apply Array.ext'
    rw [CX.range_rep m i.size z.cells hzsz, hzc]
  have hbm : (i.bytes : Int) * (m : Int) ≤ 281474976710656 := by
    have : i.bytes * m ≤ 65536 * 4294967296 := Nat.mul_le_mul hb (by omega)
    have h' : ((i.bytes * m : Nat) : Int) ≤ 281474976710656 := by omega
    rwa [Int.natCast_mul] at h'
  have hrun := run_make (P := P) w t e.1 i z hu hi hz k k' n m (by omega) (by omega) hbm (by omega)
  have : (execOp ρ o).run P w = .ok (.value (.slice (some ⟨w.heap.size, 0, none⟩) n m)) (w.alloc (.cells (List.replicate m e.2).flatten.toArray e.1)) := by
    simp only [Int.toNat_natCast] at hrun
    rw [← hcells]
    simp [execOp, ho, e1, e2, hrun, madeCells]
  rw [this]
  exact h4

theorem appZ_ok {c : Call} {x y : Operand} {t u : TypeId} {e : TypeId × List Value} (ho : o.op = .call c) (hc : c.callee = .builtin .append) (hx : c.args = #[x, y]) (ht : c.argTypes = #[t, u]) (he : elemOf P t = some e) (hi : (intOf P u).isSome = true) (h : In.wp P (.appZ e.2) [ρ x, ρ y] w K) : uponK P K ((execOp ρ o).run P w) := by
  obtain ⟨k, n, h2, h3, h14⟩ := h
  obtain ⟨hu, i, z, hinf, hz, hzc, hsz, hpos, hb, hsb, hone⟩ := elemOf_eq he
  obtain ⟨kn, hkn⟩ := Option.isSome_iff_exists.1 hi
  have hb' : n * i.bytes ≤ 281474976710656 := by
    have : n * i.bytes ≤ 4294967296 * 65536 := Nat.mul_le_mul (by omega) hb
    omega
  rcases h14 with ⟨h1, h4⟩ | ⟨h31, b, c0, cs, e0, h1, hrow, hlen, hin, hgr⟩
  case inr =>
    simp only [List.cons.injEq, and_true] at h1
    obtain ⟨e1, e2⟩ := h1
    have hzsz : z.cells.size = i.size := by rw [← hsz, ← hzc]; simp
    have hzero : ∀ m, (Builtin.zeroCells z.cells m).toList = (List.replicate m e.2).flatten := by
      intro m
      have := CX.range_rep m i.size z.cells hzsz
      unfold Builtin.zeroCells
      rw [hzsz] at this ⊢
      rw [this, hzc]
    have hlen2 : ∀ m, ((List.replicate m e.2).flatten).length = m * e.2.length := by
      intro m; induction m with
      | zero => simp
      | succ m ih => simp [List.replicate_succ, ih, Nat.add_mul]; omega
    have hn : n ≠ 0 := by omega
    have hw : IntKind.i64.wrap (n : Int) = n := by rw [IntKind.wrap_i64]; omega
    have h48i : ¬ (281474976710656 < (n : Int) * (i.bytes : Int)) := by
      rw [← Int.natCast_mul]
      omega
    have hneg : ¬ ((n : Int) < 0) := by omega
    have hns : ¬ (n * i.size = 0) := Nat.mul_ne_zero hn (by omega)
    by_cases hle : n ≤ c0
    · have hst := run_storeCells_at P b 0 e0 (List.replicate n e.2).flatten 0 cs.toArray w hrow (by
        rw [hlen2]; simp only [List.size_toArray, hlen]
        have := Nat.mul_le_mul_right e.2.length hle
        omega) (by
        intro v hv
        obtain ⟨l, hl, hv⟩ := List.mem_flatten.1 hv
        have hl := List.eq_of_mem_replicate hl
        subst hl
        exact hone v hv)
      have hadd : (⟨b, 0, none⟩ : Addr).add 0 = ⟨b, 0, none⟩ := by simp [Addr.add]
      have : (execOp ρ o).run P w = .ok (.value (.slice (some ⟨b, 0, none⟩) n c0)) (w.setRow b ((List.replicate n e.2).flatten ++ cs.drop (n * e.2.length)).toArray) := by
        simp only [Nat.add_zero, Nat.zero_add, List.take_zero, List.nil_append, hlen2] at hst
        simp [execOp, ho, resolve, hc, hx, ht, e1, e2, invoke, builtin, Builtin.append_, run_underlying hu, run_underlying (intOf_eq hkn), sizeOf, typeInfo, zeroValue, hinf, hz, asInt, asIntOf, hw, hn, hneg, hns, h48i, hle, hadd, hzero, hst]
      rw [this]
      exact hin hle
    · have hlt : c0 < n := by omega
      have h63' : ¬ (9223372036854775807 < (n : Int)) := by omega
      have hfit := growslice_fits (bytes := i.bytes) hlt (by
        have : n * i.bytes ≤ 2147483648 * 65536 := Nat.mul_le_mul h31 hb
        omega)
      have h48' : ¬ (281474976710656 < Builtin.nextslicecap n c0 * i.bytes) := by omega
      have hcap : n ≤ grownCap w n c0 e.1 := grownCap_ge w n c0 e.1
      have hcells : Builtin.zeroCells z.cells n ++ Builtin.zeroCells z.cells (grownCap w n c0 e.1 - n) = (List.replicate (grownCap w n c0 e.1) e.2).flatten.toArray := by
        apply Array.ext'
        rw [Array.toList_append, hzero, hzero, ← List.flatten_append, List.replicate_append_replicate]
        simp only [Nat.add_sub_cancel' hcap]
      have hfo := run_firstCells_some (P := P) w.drew i.size 0 ⟨b, 0, none⟩ 0 c0 [] (by simp) (fun j v hv => by simp at hv)
      have : (execOp ρ o).run P w = .ok (.value (.slice (some ⟨w.heap.size, 0, none⟩) n (grownCap w n c0 e.1))) (w.drew.alloc (.cells (List.replicate (grownCap w n c0 e.1) e.2).flatten.toArray e.1)) := by
        rw [← hcells]
        simp [execOp, ho, resolve, hc, hx, ht, e1, e2, invoke, builtin, Builtin.append_, run_underlying hu, run_underlying (intOf_eq hkn), sizeOf, typeInfo, zeroValue, hinf, hz, asInt, asIntOf, hw, hn, hneg, hns, h48i, hle, h63', h48', Question.forced, hfo, newRow, grownCap]
      rw [this]
      exact hgr hlt _ e.1 hcap
  simp only [List.cons.injEq, and_true] at h1
  obtain ⟨e1, e2⟩ := h1
  have hr := Lib.run_append_nil_zeros (P := P) w t u o.type e.1 i z k kn hu (intOf_eq hkn) hinf hz n h2 hpos (by omega) hb'
  have hzsz : z.cells.size = i.size := by rw [← hsz, ← hzc]; simp
  have hzero : ∀ m, (Builtin.zeroCells z.cells m).toList = (List.replicate m e.2).flatten := by
    intro m
    have := CX.range_rep m i.size z.cells hzsz
    unfold Builtin.zeroCells
    rw [hzsz] at this ⊢
    rw [this, hzc]
  have hcap : n ≤ grownCap w n 0 e.1 := grownCap_ge w n 0 e.1
  have hcells : Builtin.zeroCells z.cells n ++ Builtin.zeroCells z.cells (grownCap w n 0 e.1 - n) = (List.replicate (grownCap w n 0 e.1) e.2).flatten.toArray := by
    apply Array.ext'
    rw [Array.toList_append, hzero, hzero, ← List.flatten_append, List.replicate_append_replicate]
    simp only [Nat.add_sub_cancel' hcap]
  rw [hcells] at hr
  have : (execOp ρ o).run P w = .ok (.value (.slice (some ⟨w.heap.size, 0, none⟩) n (grownCap w n 0 e.1))) (w.drew.alloc (.cells (List.replicate (grownCap w n 0 e.1) e.2).flatten.toArray e.1)) := by
    simp [execOp, ho, resolve, hc, hx, ht, e1, e2, invoke, builtin, hr]
  rw [this]
  exact h4 _ e.1 hcap

theorem cpy_ok {c : Call} {x y : Operand} {t : TypeId} (ho : o.op = .call c) (hc : c.callee = .builtin .copy) (hx : c.args = #[x, y]) (ht : c.argTypes = #[t, t]) (hb : (bytesOf P t).isSome = true) (h : In.wp P .cpy [ρ x, ρ y] w K) : uponK P K ((execOp ρ o).run P w) := by
  obtain ⟨b, off, cs, e0, n, cp, src, bs, h1, h2, h3, h4, h5⟩ := h
  simp only [List.cons.injEq, and_true] at h1
  obtain ⟨e1, e2⟩ := h1
  obtain ⟨e, he⟩ := Option.isSome_iff_exists.1 hb
  obtain ⟨hu, hu8, i, hi, hz, hs1, hs2⟩ := bytesOf_eq he
  have hone : ∀ u ∈ (bs.take n).map u8, u.oneCell' = true := fun u hu => by obtain ⟨q, _, rfl⟩ := List.mem_map.1 hu; rfl
  have hlen : ((bs.take n).map u8).length = min bs.length n := by simp; omega
  have hst := run_storeCells_at P b off e0 ((bs.take n).map u8) 0 cs.toArray w h2 (by simp only [List.size_toArray]; omega) hone
  simp only [Nat.add_zero, hlen] at hst
  have key : (Builtin.firstCells 1 (Nat.min (match src with | .slice _ m _ => m | _ => 0) n) src).run P w = .ok ((bs.take n).map u8).toArray w ∧ ∃ a m q, src = .slice a m q ∧ m = bs.length := by
    rcases h4 with ⟨rfl, rfl⟩ | ⟨a, q, rfl, hbs⟩
    · exact ⟨by simp [Builtin.firstCells], none, 0, 0, rfl, rfl⟩
    · refine ⟨?_, some a, _, q, rfl, rfl⟩
      have hl := run_loadCells_list (P := P) w a ((bs.take n).map u8) (fun j v hv => by
        rw [List.getElem?_map, Option.map_eq_some_iff] at hv
        obtain ⟨y, hy, rfl⟩ := hv
        rw [List.getElem?_take] at hy
        split at hy
        · obtain ⟨hlt, rfl⟩ := List.getElem?_eq_some_iff.1 hy
          exact hbs j hlt
        · cases hy)
      rw [hlen] at hl
      have e2 : Nat.min bs.length n * 1 = min bs.length n := Nat.mul_one _
      simp only [Builtin.firstCells, e2]
      exact hl
  obtain ⟨k1, sa, sm, sq, rfl, rfl⟩ := key
  have : (execOp ρ o).run P w = .ok (.value (goInt (min bs.length n))) (w.setRow b (cs.take off ++ (bs.take n).map u8 ++ cs.drop (off + min bs.length n)).toArray) := by
    have hsz : sizeOfT P e = some 1 := by simp [sizeOfT, hi, hs1]
    have e3 : Nat.min bs.length n = min bs.length n := rfl
    have e5 : (min (bs.length : Int) (n : Int)) = ((min bs.length n : Nat) : Int) := by omega
    rw [e3] at k1
    rw [List.map_take] at hst k1 ⊢
    rw [e5]
    simp [execOp, ho, resolve, hc, hx, ht, e1, e2, invoke, builtin, Builtin.copy_, run_underlying hu, Builtin.lenOf, run_sizeOf' hsz, k1, hst, e3]
  rw [this]
  exact h5

theorem call_value (hn : ∀ (f : FuncId) (fn : Func), P.funcs[f]? = some fn → fn.name ≠ "runtime.NumGoroutine") {c : Call} {g : Operand} {f : FuncId} {caps : Array Value} {fn : Func} (ho : o.op = .call c) (hg : c.callee = .value g) (hgv : ρ g = .func (.func f) #[] caps) (hf : P.funcs[f]? = some fn) (hb : fn.body.isSome = true)
    (h : Calls P f ((c.args.toList.map ρ).toArray ++ caps) w fun | .returned v, w' => K v w' | _, _ => False) : uponK P K ((execOp ρ o).run P w) := by
  have hname : (fn.name == "runtime.NumGoroutine") = false := by simpa using hn f fn hf
  have hb' : fn.body.isNone = false := by cases hq : fn.body <;> simp_all
  have hargs : (c.args.map ρ) = (c.args.toList.map ρ).toArray := by apply Array.ext'; rw [Array.toList_map]
  have hexec : (execOp ρ o).run P w = .ok (.enter f ((c.args.toList.map ρ).toArray ++ caps)) w := by
    simp only [execOp, ho, resolve, hg, hgv, Deferred.ofValue, pure_bind, invoke, callFunc, Sem.run_bind, run_program, Result.andThen_ok, hf, hname, hb']
    simp only [Array.empty_append, Bool.false_eq_true, if_false, Sem.run_pure, hargs]
  rw [hexec]
  exact h

theorem callV_ok (hn : ∀ (f : FuncId) (fn : Func), P.funcs[f]? = some fn → fn.name ≠ "runtime.NumGoroutine") {c : Call} {g : Operand} (ho : o.op = .call c) (hg : c.callee = .value g) (h : In.wp P .callV (ρ g :: c.args.toList.map ρ) w K) : uponK P K ((execOp ρ o).run P w) := by
  obtain ⟨f, caps, rest, fn, h1, h2, h3, h4⟩ := h
  simp only [List.cons.injEq] at h1
  obtain ⟨e1, e2⟩ := h1
  subst e2
  exact call_value hn ho hg e1 h2 h3 h4

theorem appG_ok {c : Call} {x y : Operand} {t : TypeId} {e : TypeId × List Value} (ho : o.op = .call c) (hc : c.callee = .builtin .append) (hx : c.args = #[x, y]) (ht : c.argTypes = #[t, t]) (he : elemOf P t = some e)
    (h : In.wp P (.appG e.1 e.2.length) [ρ x, ρ y] w K) : uponK P K ((execOp ρ o).run P w) := by
  obtain ⟨B, v, n, xs, a, m, cp, ys, h1, h2, h3, h4, h5, h6, h7, h8⟩ := h
  simp only [List.cons.injEq, and_true] at h1
  obtain ⟨e1, e2⟩ := h1
  obtain ⟨hu, i, z, hi, hz, hzc, hsz, hpos, hb, hsb, _⟩ := elemOf_eq he
  have hzsz : z.cells.size = e.2.length := by rw [← hzc]; simp
  have hb' : (n + m) * i.bytes ≤ 140737488355328 := by
    have : (n + m) * i.bytes ≤ 1073741824 * 65536 := Nat.mul_le_mul h7 hb
    omega
  obtain ⟨v', w', k1, k2, k3, k4, k5⟩ := run_append_own_at (P := P) (w := w) B t o.type e.1 i z e.2.length i.bytes hu hi hz hsz.symm rfl hzsz (by omega) v n xs h2 a m cp ys h4 h5 h6 (by simp only [maxLen]; omega) hb' h3
  have : (execOp ρ o).run P w = .ok (.value v') w' := by
    simp [execOp, ho, resolve, hc, hx, ht, e1, e2, invoke, builtin, k1]
  rw [this]
  exact h8 v' w' k2 (grownBy_below h2 h3 k3) ⟨k3, gr_at k5⟩

/-! Keys. -/
theorem findNow_int (kk k : IntKind) (n : Int) : ∀ (es : List MapEntry) (i : Nat), (∀ e ∈ es, ∃ m, e.key = .int k m) →
    Instr.findNow (.int kk) (.int k n) es i = some (match es.findIdx? (keyIs k n) with | none => none | some j => some (i + j, ((es[j]?).map (·.val)).getD undef)) := by
  intro es
  induction es with
  | nil => intro i _; rfl
  | cons e r ih =>
    intro i h
    obtain ⟨m, hm⟩ := h e (by simp)
    simp only [Instr.findNow, hm, Instr.sameNow, if_true]
    have hk : keyIs k n e = (n == m) := by simp [keyIs, hm]
    by_cases hnm : n = m
    · subst hnm
      simp [List.findIdx?_cons, hk]
    · have hne : (n == m) = false := by simpa using hnm
      simp only [hne]
      rw [ih (i + 1) (fun e he => h e (by simp [he]))]
      simp only [List.findIdx?_cons, hk, hne, Bool.false_eq_true, if_false]
      cases List.findIdx? (keyIs k n) r with
      | none => rfl
      | some j => simp; omega

theorem find_findIdx (p : MapEntry → Bool) : ∀ es : List MapEntry, es.find? p = match es.findIdx? p with | none => none | some j => es[j]? := by
  intro es
  induction es with
  | nil => rfl
  | cons e r ih =>
    simp only [List.find?_cons, List.findIdx?_cons]
    by_cases h : p e = true
    · simp [h]
    · simp only [h, Bool.false_eq_true, if_false]
      rw [ih]
      cases List.findIdx? p r with
      | none => rfl
      | some j => simp

theorem run_findKey {kt : TypeId} {kk k : IntKind} {n : Int} {es : Array MapEntry} (hkt : P.underlying kt = some (.int kk)) (hk : KeysInt k es) (w : World) :
    (Instr.findKey kt (.int k n) es.toList).run P w = .ok (match es.toList.findIdx? (keyIs k n) with | none => none | some j => some (j, ((es.toList[j]?).map (·.val)).getD undef)) w := by
  have := findNow_int kk k n es.toList 0 hk
  simp only [Nat.zero_add] at this
  simp [Instr.findKey, run_underlying hkt, this]

theorem run_checkKeyN {kt : TypeId} {kk k : IntKind} {n : Int} (hkt : P.underlying kt = some (.int kk)) (b : Bool) (d : Nat) (w : World) : (Instr.checkKey b (d + 1) kt (.int k n)).run P w = .ok () w := by
  simp [Instr.checkKey, run_underlying hkt]

theorem run_checkKey {kt : TypeId} {kk k : IntKind} {n : Int} (hkt : P.underlying kt = some (.int kk)) (b : Bool) (w : World) : (Instr.checkKey b 10000 kt (.int k n)).run P w = .ok () w := run_checkKeyN hkt b 9999 w

theorem mapSet_ok {t kt e : TypeId} {m x y : Operand} (ho : o.op = .mapUpdate t m x y) (hu : P.underlying t = some (.map kt e)) (hi : (intOf P kt).isSome = true) (h : In.wp P .mapSet [ρ m, ρ x, ρ y] w K) : uponK P K ((execOp ρ o).run P w) := by
  obtain ⟨r, es, cl, k, n, v, h1, h2, h3, h4⟩ := h
  simp only [List.cons.injEq, and_true] at h1
  obtain ⟨e1, e2, e3⟩ := h1
  obtain ⟨kk, hkk⟩ := Option.isSome_iff_exists.1 hi
  have hkt := intOf_eq hkk
  have : (execOp ρ o).run P w = .ok .skip (setO w r (putE es k n v cl)) := by
    have hf := run_findKey (n := n) hkt h3 w
    have hs : ∀ ob, (setObj r ob).run P w = .ok () (setO w r ob) := fun ob => run_setM h2
    unfold putE
    cases hidx : es.toList.findIdx? (keyIs k n) with
    | none =>
      rw [hidx] at hf
      simp [execOp, ho, e1, e2, e3, Instr.mapUpdate, run_underlying hu, run_getM h2, run_checkKey hkt, hf, hs]
    | some j =>
      rw [hidx] at hf
      obtain ⟨hlt, hp, _⟩ := List.findIdx?_eq_some_iff_getElem.1 hidx
      have hkey : (es.toList[j]).key = .int k n := by
        obtain ⟨m', hm'⟩ := h3 _ (List.getElem_mem hlt)
        simp only [keyIs, hm', decide_true, Bool.true_and, beq_iff_eq] at hp
        rw [hm', hp]
      have hj : es[j]? = some es.toList[j] := by simp
      have hk2 : ∀ w, (Instr.keyThatStays (((es[j]?).map (·.key)).getD (.int k n)) (.int k n)).run P w = .ok (.int k n) w := by
        intro w
        rw [hj]
        simp only [Option.map_some, Option.getD_some, hkey, Instr.keyThatStays, Instr.sameBits]
        simp
      simp only [execOp, ho, e1, e2, e3, Instr.mapUpdate, Sem.run_bind, run_underlying hu, Result.andThen_ok, run_getM h2, run_checkKey hkt, hf, hk2, hs, Sem.run_pure]
  rw [this]
  exact h4

theorem lookM_ok {t kt e : TypeId} {m x : Operand} {i : TypeInfo} {z : Value} (ho : o.op = .lookup t m x false) (hu : P.underlying t = some (.map kt e)) (hi : (intOf P kt).isSome = true) (hinf : P.info? e = some i) (hz : i.zero = some z) (h : In.wp P (.lookM z) [ρ m, ρ x] w K) : uponK P K ((execOp ρ o).run P w) := by
  obtain ⟨r, es, cl, k, n, h1, h2, h3, h4⟩ := h
  simp only [List.cons.injEq, and_true] at h1
  obtain ⟨e1, e2⟩ := h1
  obtain ⟨kk, hkk⟩ := Option.isSome_iff_exists.1 hi
  have hkt := intOf_eq hkk
  have : (execOp ρ o).run P w = .ok (.value (((es.toList.find? (keyIs k n)).map (·.val)).getD z)) w := by
    have hf := run_findKey (n := n) hkt h3 w
    rw [find_findIdx]
    cases hidx : es.toList.findIdx? (keyIs k n) with
    | none =>
      rw [hidx] at hf
      simp [execOp, ho, e1, e2, Instr.lookup, run_underlying hu, run_getM h2, run_checkKey hkt, hf, zeroValue, typeInfo, hinf, hz]
    | some j =>
      rw [hidx] at hf
      obtain ⟨hlt, hp, _⟩ := List.findIdx?_eq_some_iff_getElem.1 hidx
      have hj : es.toList[j]? = some es.toList[j] := List.getElem?_eq_getElem hlt
      dsimp only at hf ⊢
      rw [hj] at hf ⊢
      simp only [execOp, ho, e1, e2, Instr.lookup, Sem.run_bind, run_underlying hu, Result.andThen_ok, run_getM h2, Sem.run_pure, run_checkKey hkt, hf, hj, Option.map_some, Option.getD_some, Bool.false_eq_true, if_false]
  rw [this]
  exact h4

theorem nextM_ok {x : Operand} (ho : o.op = .next x false) (h : In.wp P .nextM [ρ x] w K) : uponK P K ((execOp ρ o).run P w) := by
  rcases h with ⟨b, h1, h2, h3⟩ | ⟨b, r, seen, es, cl, h1, h2, h3, h4, h5, h6⟩
  · simp only [List.cons.injEq, and_true] at h1
    have : (execOp ρ o).run P w = .ok (.value (.tuple #[.bool false])) w := by
      simp only [execOp, ho, h1, Instr.next, Sem.run_bind, run_getI h2, Result.andThen_ok, Sem.run_pure]
    rw [this]
    exact h3
  simp only [List.cons.injEq, and_true] at h1
  have hstep : ¬ (!seen.isEmpty && !es.isEmpty && es.all (fun e => decide (e.born ≥ cl))) = true := by
    intro hc
    simp only [Bool.and_eq_true, Bool.not_eq_true', Array.isEmpty_eq_false_iff] at hc
    obtain ⟨⟨_, h7⟩, h8⟩ := hc
    obtain ⟨e, he⟩ := Array.exists_mem_of_ne_empty es h7
    have h9 := (Array.all_eq_true_iff_forall_mem.1 h8) e he
    have := h4 e (by simpa using he)
    simp only [ge_iff_le, decide_eq_true_eq] at h9
    omega
  have hold : (es.filter fun e => !seen.contains e.born).filter (fun e => decide (e.born < cl)) = es.filter fun e => !seen.contains e.born := by
    rw [Array.filter_eq_self]
    intro e he
    have := h4 e (by simpa using (Array.mem_filter.1 he).1)
    simpa using this
  have hnew : (es.filter fun e => !seen.contains e.born).filter (fun e => decide (e.born ≥ cl)) = #[] := by
    rw [Array.filter_eq_empty_iff]
    intro e he
    have := h4 e (by simpa using (Array.mem_filter.1 he).1)
    simp only [ge_iff_le, decide_eq_true_eq]; omega
  have hchoose : ∀ n, 0 < n → ∃ i w1, (choose (.mapNext n)).run P w = .ok i w1 ∧ i < n ∧ (w1 = w ∨ w1 = w.drew) := by
    intro n hn
    by_cases hf : (Question.mapNext n).forced = true
    · exact ⟨0, w, by simp [hf], hn, .inl rfl⟩
    · exact ⟨w.tape w.drawn (.mapNext n) % n, w.drew, by simp [hf, Question.cut], Nat.mod_lt _ hn, .inr rfl⟩
  simp only [execOp, ho, h1, Instr.next, Sem.run_bind, run_getI h2, Result.andThen_ok, run_getM h3, hold, hnew]
  rw [if_neg hstep]
  simp only [Sem.run_bind, Array.append_empty, Array.size_append, Array.size_map]
  generalize hleft : (es.filter fun e => !seen.contains e.born) = left at *
  by_cases hemp : left.isEmpty = true
  · have hl0 : left = #[] := by simpa using hemp
    subst hl0
    obtain ⟨i, w1, k1, k2, k3⟩ := hchoose 1 (by omega)
    have hi0 : i = 0 := by omega
    subst hi0
    simp only [List.isEmpty_toArray, List.isEmpty_nil, if_true, List.size_toArray, List.length_cons, List.length_nil, Nat.zero_add, Nat.add_zero, k1, Result.andThen_ok]
    have hc0 : (#[none] ++ (#[] : Array MapEntry).map some : Array (Option MapEntry))[0]? = some none := by simp
    simp only [hc0, Sem.run_pure, Result.andThen_ok]
    refine h6 (fun e he => ?_) w1 k3
    by_cases hs : e.born ∈ seen.toList
    · exact hs
    · have : e ∈ (es.filter fun e => !seen.contains e.born) := Array.mem_filter.2 ⟨by simpa using he, by simpa using hs⟩
      rw [hleft] at this
      simp at this
  · simp only [hemp, Bool.false_eq_true, if_false, List.size_toArray, List.length_nil, Nat.zero_add]
    have hpos : 0 < left.size := by
      rcases Nat.eq_zero_or_pos left.size with h0 | h0
      · exact (hemp (by simpa [Array.isEmpty] using h0)).elim
      · exact h0
    obtain ⟨i, w1, k1, k2, k3⟩ := hchoose left.size hpos
    have hc : (#[] ++ left.map some : Array (Option MapEntry))[i]? = some (some left[i]) := by simp [k2]
    simp only [k1, Result.andThen_ok, hc]
    have hmem := Array.getElem_mem k2
    have hin : left[i] ∈ (es.filter fun e => !seen.contains e.born) := by rw [hleft]; exact hmem
    obtain ⟨m1, m2⟩ := Array.mem_filter.1 hin
    have hw1 : w1.heap[b]? = some (.mapIter (some r) cl seen cl) := by rcases k3 with rfl | rfl <;> exact h2
    simp only [Sem.run_bind, run_setI hw1, Result.andThen_ok, Sem.run_pure]
    exact h5 _ (by simpa using m1) (by simpa using m2) w1 k3

/-! Literals of elements of several cells. -/
theorem fill_wide {sz : Nat} (hsz : 0 < sz) : ∀ (vs : List Value) (pre z : List Value) (n : Nat), (∀ v ∈ vs, v.cells.size = sz) → pre.length = n * sz → z.length = vs.length * sz →
    Instr.fill (fun i => some (i * sz, sz)) (pre ++ z).toArray ((List.range' n vs.length).zip vs) = some (pre ++ (vs.map (·.cells.toList)).flatten).toArray := by
  intro vs
  induction vs with
  | nil =>
    intro pre z n _ _ hz
    have : z = [] := List.eq_nil_of_length_eq_zero (by simpa using hz)
    subst this
    simp [Instr.fill]
  | cons v vs ih =>
    intro pre z n hv hp hz
    have hvs := hv v (by simp)
    simp only [List.length_cons, List.range'_succ, List.zip_cons_cons, Instr.fill]
    have hle : pre.length + sz ≤ (pre ++ z).length := by
      simp only [List.length_append, hz, List.length_cons, Nat.succ_mul]; omega
    have hns : ¬ (n * sz + sz > (pre ++ z).length) := by rw [← hp]; omega
    simp only [hvs, ne_eq, not_true, decide_false, List.size_toArray, hns, Bool.or_self, Bool.false_eq_true, if_false]
    have hf := CX.fold_splice v.cells.toList (n * sz) (pre ++ z) (by simp only [Array.length_toList, hvs]; omega)
    have e1 : v.cells.toList.toArray = v.cells := by simp
    rw [e1] at hf
    have e2 : (Array.foldl (fun cs x => match x with | (c, j) => cs.setIfInBounds (n * sz + j) c) (pre ++ z).toArray v.cells.zipIdx) = (pre ++ v.cells.toList ++ z.drop sz).toArray := by
      refine Eq.trans hf ?_
      have hlv : v.cells.toList.length = sz := by simpa using hvs
      rw [hlv, ← hp, List.take_left', List.drop_append]
      · simp
      · rfl
    rw [e2]
    have := ih (pre ++ v.cells.toList) (z.drop sz) (n + 1) (fun u hu => hv u (by simp [hu])) (by simp [hp, hvs, Nat.succ_mul]) (by simp [hz, Nat.succ_mul])
    simpa using this

theorem bslG_ok {t : TypeId} {len : Nat} {parts : Array (Nat × Operand)} {e : TypeId × List Value} (ho : o.op = .buildSlice t len parts) (he : elemOf P t = some e) (hp : parts.toList.map (·.1) = List.range len) (hl : len * e.2.length ≤ 65536)
    (h : In.wp P (.bslG e.2.length) (parts.toList.map fun p => ρ p.2) w K) : uponK P K ((execOp ρ o).run P w) := by
  obtain ⟨h1, h2⟩ := h
  obtain ⟨hu, i, z, hi, hz, hzc, hsz, hpos, hb, hsb, _⟩ := elemOf_eq he
  have hzsz : z.cells.size = i.size := by rw [← hsz, ← hzc]; simp
  have hplen : parts.toList.length = len := by have := congrArg List.length hp; simpa using this
  have hparts : (parts.map fun (p : Nat × Operand) => (p.1, ρ p.2)).toList = (List.range len).zip (parts.toList.map fun p => ρ p.2) := by
    rw [← hp]
    simp only [Array.toList_map]
    generalize parts.toList = l
    induction l with
    | nil => rfl
    | cons p r ih => simp [ih]
  have hfill : Instr.fill (fun i => some (i * e.2.length, e.2.length)) (List.replicate len e.2).flatten.toArray ((List.range len).zip (parts.toList.map fun p => ρ p.2)) = some ((parts.toList.map fun p => ρ p.2).map (·.cells.toList)).flatten.toArray := by
    have := fill_wide (sz := e.2.length) (by omega) (parts.toList.map fun p => ρ p.2) [] (List.replicate len e.2).flatten 0 h1 (by simp) (by simp [hplen])
    simpa [hplen, List.range_eq_range'] using this
  have : (execOp ρ o).run P w = .ok (.value (.slice (some ⟨w.heap.size, 0, none⟩) len len)) (w.alloc (.cells ((parts.toList.map fun p => ρ p.2).map (·.cells.toList)).flatten.toArray e.1)) := by
    have hns : ¬ (len * i.size > 2 ^ 24) := by rw [← hsz]; omega
    have hcells : ∀ zz : Array Value, zz = (if len * i.size = 0 then #[] else z.cells) → ((Array.range (len * i.size)).map (zz[· % zz.size]!)) = (List.replicate len e.2).flatten.toArray := by
      intro zz hzz
      by_cases h0 : len = 0
      · subst h0; simp
      · have : ¬ (len * i.size = 0) := Nat.mul_ne_zero h0 (by omega)
        rw [hzz, if_neg this]
        apply Array.ext'
        rw [CX.range_rep len i.size z.cells hzsz, hzc]
    by_cases h0 : len * i.size = 0
    · have hc := hcells #[] (by rw [if_pos h0])
      simp only [execOp, ho, Instr.buildSlice, Sem.run_bind, run_underlying hu, Result.andThen_ok, sizeOf, typeInfo, run_program, hi, Sem.run_pure, hns, if_false, if_pos h0]
      rw [hparts, hc, ← hsz, hfill]
      simp [newRow]
    · have hc := hcells z.cells (by rw [if_neg h0])
      simp only [execOp, ho, Instr.buildSlice, Sem.run_bind, run_underlying hu, Result.andThen_ok, sizeOf, typeInfo, zeroValue, run_program, hi, hz, Sem.run_pure, hns, if_false, if_neg h0]
      rw [hparts, hc, ← hsz, hfill]
      simp [newRow]
  rw [this]
  have hlen : (parts.toList.map fun p => ρ p.2).length = len := by simp [hplen]
  have := h2 e.1
  rw [hlen] at this
  exact this

end
end Go.Nx

/- Programs with their types read: what they promise, the program does that they were taken from. -/
namespace Go.Nx
open Go.Lx
open Go.CX (pureRun isAggT sizeOfT run_isAgg run_sizeOf' pureRun_run)

section
variable {P : Program} {o : Oper} {w : World} {K : Value → World → Prop}

/-- No function of the program is the one that the model tells apart. -/
def Named (P : Program) : Prop := ∀ (f : FuncId) (fn : Func), P.funcs[f]? = some fn → fn.name ≠ "runtime.NumGoroutine"

theorem call_ok (hn : Named P) {ρ : Operand → Value} {c : Call} {g : Operand} {f : FuncId} {fn : Func} (ho : o.op = .call c) (hg : c.callee = .value g) (hgv : ρ g = .func (.func f) #[] #[]) (hf : P.funcs[f]? = some fn) (hb : fn.body.isSome = true)
    (h : In.wp P (.call f) (c.args.toList.map ρ) w K) : uponK P K ((execOp ρ o).run P w) := by
  have hname : (fn.name == "runtime.NumGoroutine") = false := by simpa using hn f fn hf
  have hb' : fn.body.isNone = false := by cases hq : fn.body <;> simp_all
  have hexec : (execOp ρ o).run P w = .ok (.enter f (c.args.toList.map ρ).toArray) w := by
    simp only [execOp, ho, resolve, hg, hgv, Deferred.ofValue, pure_bind, invoke, callFunc, Sem.run_bind, run_program, Result.andThen_ok, hf, hname, hb']
    simp only [Array.empty_append, Array.append_empty, Result.andThen_ok, Bool.false_eq_true, if_false, Sem.run_pure]
    congr 2
    apply Array.ext'
    simp
  rw [hexec]
  refine Calls.mono (show Calls P f (c.args.toList.map ρ).toArray w _ from h) ?_
  intro e w' he
  cases e with
  | returned v => exact he
  | panicked c => exact he
  | outgrown => exact he

theorem arr_of {α : Type} {a : Array α} {l : List α} (h : a.toList = l) : a = l.toArray := by rw [← h]

theorem one_arg {ρ : Operand → Value} {x : Operand} {vs : List Value} (h : (#[x] : Array Operand).toList.map ρ = vs) : vs = [ρ x] := by simpa using h.symm
theorem two_args {ρ : Operand → Value} {x y : Operand} {vs : List Value} (h : (#[x, y] : Array Operand).toList.map ρ = vs) : vs = [ρ x, ρ y] := by simpa using h.symm

theorem resA_ok (hn : Named P) {args args' : List SV} {i : In} (h : resA P o args = some (i, args')) {η : Nat → Value} (hw : i.wp P (args'.map (SV.val η)) w K) : opWp P o (args.map (SV.val η)) w K := by
  intro ρ hρ
  unfold resA at h
  split at h
  · rename_i t x ho
    rw [ho] at hρ
    have ha := one_arg hρ
    split at h
    · rename_i hagg; cases h; rw [ha] at hw; exact load_ok ho hagg hw
    · rename_i hagg
      simp only [Option.map_eq_some_iff] at h
      obtain ⟨n, hsz, h⟩ := h
      cases h; rw [ha] at hw; exact loadN_ok ho hagg hsz hw
    · cases h
  · rename_i t x y ho
    rw [ho] at hρ
    have ha := two_args hρ
    simp only [Option.map_eq_some_iff] at h
    obtain ⟨n, hsz, h⟩ := h
    cases h; rw [ha] at hw; exact store_ok ho hsz hw
  · rename_i c ho
    rw [ho] at hρ
    split at h
    · rename_i hc
      split at h
      · rename_i x t hx ht
        have hx := arr_of hx
        have ht := arr_of ht
        have ha : args.map (SV.val η) = [ρ x] := one_arg (by simpa [Op.operands, Call.operands, hc, hx] using hρ)
        split at h
        · rename_i hs; cases h; rw [ha] at hw; exact lenS_ok ho hc hx ht hs hw
        · split at h
          · rename_i hs
            cases h; rw [ha] at hw
            obtain ⟨n, hs⟩ := Option.isSome_iff_exists.1 hs
            exact len_ok ho hc hx ht hs hw
          · cases h
      · cases h
    · rename_i hc
      split at h
      · rename_i x y t u hx ht
        have hx := arr_of hx
        have ht := arr_of ht
        have ha : args.map (SV.val η) = [ρ x, ρ y] := two_args (by simpa [Op.operands, Call.operands, hc, hx] using hρ)
        simp only [Option.bind_eq_some_iff] at h
        obtain ⟨e, hb, h⟩ := h
        split at h
        · rename_i hs; cases h; rw [ha] at hw; exact appS_ok ho hc hx ht hb hs hw
        · split at h
          · rename_i hs; subst hs; cases h; rw [ha] at hw; exact app_ok ho hc hx ht hb hw
          · cases h
      · cases h
    · rename_i g hc
      split at h
      · rename_i f fi ca r
        split at h
        · rename_i hfc
          split at h
          · rename_i fn hf
            split at h
            · rename_i hb
              cases h
              simp only [Bool.and_eq_true, Array.isEmpty_iff] at hfc
              obtain ⟨rfl, rfl⟩ := hfc
              have ha : ρ g = .func (.func f) #[] #[] ∧ c.args.toList.map ρ = args'.map (SV.val η) := by
                have : ρ g :: c.args.toList.map ρ = Value.func (.func f) #[] #[] :: args'.map (SV.val η) := by simpa [Op.operands, Call.operands, hc, SV.val] using hρ
                exact List.cons.inj this
              rw [← ha.2] at hw
              exact call_ok hn ho hc ha.1 hf hb hw
            · cases h
          · cases h
        · cases h
      · cases h
    · cases h
  · rename_i op t x y yt ho
    rw [ho] at hρ
    have ha := two_args hρ
    split at h
    · split at h
      · cases h; rw [ha] at hw; exact bin_ok ho hw
      · split at h
        · cases h; rw [ha] at hw; exact sh_ok ho hw
        · cases h
    · split at h
      · rename_i c0 a v
        simp only [Option.bind_eq_some_iff] at h
        obtain ⟨k, hk, h⟩ := h
        have ha2 : ρ x = a.val η ∧ ρ (.const c0) = v := by
          have : [a.val η, v] = [ρ x, ρ (.const c0)] := ha
          simp only [List.cons.injEq, and_true] at this
          exact ⟨this.1.symm, this.2.symm⟩
        split at h
        · rename_i hop; subst hop; cases h
          rw [show [a].map (SV.val η) = [ρ x] by simp [ha2.1]] at hw
          exact isNil_ok ho rfl hk ha2.2 hw
        · split at h
          · rename_i hop; subst hop; cases h
            rw [show [a].map (SV.val η) = [ρ x] by simp [ha2.1]] at hw
            exact isNil_ok ho rfl hk ha2.2 hw
          · cases h
      · cases h
  · rename_i t len parts ho
    rw [ho] at hρ
    simp only [Option.bind_eq_some_iff] at h
    obtain ⟨e, he, h⟩ := h
    split at h
    · rename_i hc
      cases h
      have ha : args.map (SV.val η) = parts.toList.map fun p => ρ p.2 := by rw [← hρ]; simp [Op.operands, Function.comp_def]
      rw [ha] at hw
      exact bsl_ok ho he hc.1 hc.2.2 hw
    · cases h
  · rename_i t x y ho
    rw [ho] at hρ
    have ha := two_args hρ
    split at h
    · rename_i hs; cases h; rw [ha] at hw; exact idxS_ok ho hs hw
    · cases h
  · rename_i t parts ho
    rw [ho] at hρ
    split at h
    · rename_i fs hu
      simp only [Option.bind_eq_some_iff] at h
      obtain ⟨z, hz, offs, hoffs, h⟩ := h
      split at h
      · rename_i hc
        cases h
        simp only [Bool.and_eq_true] at hc
        have ha : args.map (SV.val η) = parts.toList.map fun p => ρ p.2 := by rw [← hρ]; simp [Op.operands, Function.comp_def]
        rw [ha] at hw
        exact lit_ok ho hu hz hoffs hc.1.1 hc.1.2 hw
      · cases h
    · cases h
  · rename_i s d x ho
    rw [ho] at hρ
    have ha := one_arg hρ
    split at h
    · rename_i k k' hd hs; cases h; rw [ha] at hw; exact cv_ok ho hd hs hw
    · split at h
      · rename_i hs
        cases h; rw [ha] at hw
        simp only [Bool.and_eq_true] at hs
        obtain ⟨e, he⟩ := Option.isSome_iff_exists.1 hs.1
        exact toStr_ok ho hs.2 he hw
      · cases h
  · rename_i t x ho
    rw [ho] at hρ
    have ha := one_arg hρ
    cases h; rw [ha] at hw; exact not_ok ho hw
  · rename_i t x lo hi mx ho
    rw [ho] at hρ
    split at h
    · cases h
    · rename_i hm
      simp only [Option.map_eq_some_iff] at h
      obtain ⟨n, hsz, h⟩ := h
      cases h
      have ha : args.map (SV.val η) = ρ x :: ((lo.map ρ).toList ++ (hi.map ρ).toList ++ (mx.map ρ).toList) := by
        rw [← hρ]
        cases lo <;> cases hi <;> cases mx <;> simp [Op.operands]
      rw [ha] at hw
      exact sl_ok ho hsz (fun h1 => by cases hi <;> simp_all) hw
  · rename_i t x y ho
    rw [ho] at hρ
    have ha := two_args hρ
    simp only [Option.map_eq_some_iff] at h
    obtain ⟨n, hsz, h⟩ := h
    cases h; rw [ha] at hw; exact ia_ok ho hsz hw
  · rename_i x i ho
    rw [ho] at hρ
    have ha := one_arg hρ
    cases h; rw [ha] at hw; exact ex_ok ho hw
  · rename_i t ho
    rw [ho] at hρ
    simp only [Option.map_eq_some_iff] at h
    obtain ⟨z, hz, h⟩ := h
    cases h
    have ha : args.map (SV.val η) = [] := by simpa [Op.operands] using hρ.symm
    rw [ha] at hw; exact alloc_ok ho hz hw
  · cases h

theorem resB_ok (hn : Named P) {args args' : List SV} {i : In} (h : resB P o args = some (i, args')) {η : Nat → Value} (hw : i.wp P (args'.map (SV.val η)) w K) : opWp P o (args.map (SV.val η)) w K := by
  intro ρ hρ
  unfold resB at h
  split at h
  · rename_i t x ho
    rw [ho] at hρ
    have ha := one_arg hρ
    simp only [Option.map_eq_some_iff] at h
    obtain ⟨n, hsz, h⟩ := h
    cases h; rw [ha] at hw; exact box_ok ho hw
  · rename_i op t x y yt ho
    rw [ho] at hρ
    have ha := two_args hρ
    split at h
    · split at h
      · rename_i hop; subst hop; cases h; rw [ha] at hw; exact rem_ok ho hw
      · cases h
    · split at h
      · rename_i hm
        split at h
        · rename_i a
          have ha2 : ρ x = a.val η ∧ ρ (.const (.map none)) = .map none := by
            have : [a.val η, .map none] = [ρ x, ρ (.const (.map none))] := ha
            simp only [List.cons.injEq, and_true] at this
            exact ⟨this.1.symm, this.2.symm⟩
          split at h
          · rename_i hop; subst hop; cases h
            rw [show [a].map (SV.val η) = [ρ x] by simp [ha2.1]] at hw
            exact isNilM_ok ho rfl hm ha2.2 hw
          · split at h
            · rename_i hop; subst hop; cases h
              rw [show [a].map (SV.val η) = [ρ x] by simp [ha2.1]] at hw
              exact isNilM_ok ho rfl hm ha2.2 hw
            · cases h
        · cases h
      · cases h
  · rename_i c ho
    rw [ho] at hρ
    split at h
    · rename_i hc
      split at h
      · rename_i x y t u hx ht
        have hx := arr_of hx
        have ht := arr_of ht
        have ha : args.map (SV.val η) = [ρ x, ρ y] := two_args (by simpa [Op.operands, Call.operands, hc, hx] using hρ)
        simp only [Option.bind_eq_some_iff] at h
        obtain ⟨e, he, h⟩ := h
        split at h
        · rename_i hi; cases h; rw [ha] at hw; exact appZ_ok ho hc hx ht he hi hw
        · split at h
          · rename_i htu; subst htu; cases h; rw [ha] at hw; exact appG_ok ho hc hx ht he hw
          · cases h
      · cases h
    · rename_i hc
      split at h
      · rename_i x t hx ht
        have hx := arr_of hx
        have ht := arr_of ht
        have ha : args.map (SV.val η) = [ρ x] := one_arg (by simpa [Op.operands, Call.operands, hc, hx] using hρ)
        split at h
        · rename_i hm; cases h; rw [ha] at hw; exact lenM_ok ho hc hx ht hm hw
        · cases h
      · cases h
    · rename_i hc
      split at h
      · rename_i x y hx
        have hx := arr_of hx
        have ha : args.map (SV.val η) = [ρ x, ρ y] := two_args (by simpa [Op.operands, Call.operands, hc, hx] using hρ)
        cases h; rw [ha] at hw; exact mm_ok (mx := false) ho hc hx hw
      · cases h
    · rename_i hc
      split at h
      · rename_i x y hx
        have hx := arr_of hx
        have ha : args.map (SV.val η) = [ρ x, ρ y] := two_args (by simpa [Op.operands, Call.operands, hc, hx] using hρ)
        cases h; rw [ha] at hw; exact mm_ok (mx := true) ho hc hx hw
      · cases h
    · rename_i hc
      split at h
      · rename_i x y t u hx ht
        have hx := arr_of hx
        have ht := arr_of ht
        have ha : args.map (SV.val η) = [ρ x, ρ y] := two_args (by simpa [Op.operands, Call.operands, hc, hx] using hρ)
        split at h
        · rename_i hcc; obtain ⟨htu, hb⟩ := hcc; subst htu; cases h; rw [ha] at hw; exact cpy_ok ho hc hx ht hb hw
        · cases h
      · cases h
    · rename_i g hc
      split at h
      · rename_i m r
        cases h
        have ha : (SV.s m :: r).map (SV.val η) = ρ g :: c.args.toList.map ρ := by simpa [Op.operands, Call.operands, hc] using hρ.symm
        rw [ha] at hw
        exact callV_ok hn ho hc hw
      · cases h
    · cases h
  · rename_i t x y ho
    rw [ho] at hρ
    have ha := two_args hρ
    simp only [Option.map_eq_some_iff] at h
    obtain ⟨e, he, h⟩ := h
    cases h; rw [ha] at hw; exact mk_ok ho he hw
  · rename_i t x ho
    rw [ho] at hρ
    have ha : args.map (SV.val η) = [ρ x] := one_arg (by simpa [Op.operands] using hρ)
    split at h
    · rename_i a ht
      split at h
      · rename_i n e hae
        split at h
        · rename_i he; cases h; rw [ha] at hw; exact sla_ok ho ht hae he hw
        · cases h
      · cases h
    · rename_i n e hae
      split at h
      · rename_i he; cases h; rw [ha] at hw; exact sla_ok' ho hae he hw
      · cases h
    · cases h
  · rename_i t len parts ho
    rw [ho] at hρ
    simp only [Option.bind_eq_some_iff] at h
    obtain ⟨e, he, h⟩ := h
    split at h
    · rename_i hc
      cases h
      have ha : args.map (SV.val η) = parts.toList.map fun p => ρ p.2 := by rw [← hρ]; simp [Op.operands, Function.comp_def]
      rw [ha] at hw
      exact bslG_ok ho he hc.1 hc.2.2 hw
    · cases h
  · rename_i t x ho
    rw [ho] at hρ
    have ha := one_arg hρ
    split at h
    · cases h
    · rename_i d hd hu
      cases h; rw [ha] at hw; exact mkif_ok ho hu (fun ms h => hd ms h) hw
    · cases h
  · rename_i f first caps ho
    rw [ho] at hρ
    split at h
    · rename_i hf
      cases h
      have hf : first = #[] := by simpa using hf
      subst hf
      have ha : args.map (SV.val η) = caps.toList.map ρ := by simpa [Op.operands] using hρ.symm
      rw [ha] at hw
      exact mkfn_ok ho hw
    · cases h
  · rename_i t ho
    rw [ho] at hρ
    cases h
    have ha : args.map (SV.val η) = [] := by simpa [Op.operands] using hρ.symm
    rw [ha] at hw
    exact mkMap_ok ho hw
  · rename_i t m x y ho
    rw [ho] at hρ
    have ha : args.map (SV.val η) = [ρ m, ρ x, ρ y] := by simpa [Op.operands] using hρ.symm
    split at h
    · rename_i kt e hu
      split at h
      · rename_i hi; cases h; rw [ha] at hw; exact mapSet_ok ho hu hi hw
      · cases h
    · cases h
  · rename_i t m x ho
    rw [ho] at hρ
    have ha := two_args hρ
    split at h
    · rename_i kt e hu
      split at h
      · rename_i hi
        simp only [Option.map_eq_some_iff, Option.bind_eq_some_iff] at h
        obtain ⟨z, ⟨inf, hinf, hz⟩, h⟩ := h
        cases h; rw [ha] at hw; exact lookM_ok ho hu hi hinf hz hw
      · cases h
    · cases h
  · rename_i t x ho
    rw [ho] at hρ
    have ha := one_arg hρ
    split at h
    · rename_i hm; cases h; rw [ha] at hw; exact rangeM_ok ho hm hw
    · cases h
  · rename_i x ho
    rw [ho] at hρ
    have ha := one_arg hρ
    cases h; rw [ha] at hw; exact nextM_ok ho hw
  · rename_i x ho
    rw [ho] at hρ
    have ha := one_arg hρ
    cases h; rw [ha] at hw; exact entM_ok ho hw
  · cases h

theorem eqS_ok {ρ : Operand → Value} {op : BinOp} {neq : Bool} {t yt : TypeId} {x y : Operand} (ho : o.op = .binOp op t x y yt) (hop : op = if neq then .neq else .eql) (h : In.wp P (.eqS neq) [ρ x, ρ y] w K) : uponK P K ((execOp ρ o).run P w) := by
  obtain ⟨s, u, h1, h3⟩ := h
  simp only [List.cons.injEq, and_true] at h1
  obtain ⟨e1, e2⟩ := h1
  have : (execOp ρ o).run P w = .ok (.value (.bool ((s.toList == u.toList) != neq))) w := by
    cases neq <;> subst hop <;> simp [execOp, ho, e1, e2, eqGuard, binOp, Op.stringOp]
  rw [this]
  exact h3

theorem eqB_ok {ρ : Operand → Value} {op : BinOp} {neq : Bool} {t yt : TypeId} {x y : Operand} (ho : o.op = .binOp op t x y yt) (ht : isBoolT P t = true) (hop : op = if neq then .neq else .eql) (h : In.wp P (.eqB neq) [ρ x, ρ y] w K) : uponK P K ((execOp ρ o).run P w) := by
  obtain ⟨s, u, h1, h3⟩ := h
  simp only [List.cons.injEq, and_true] at h1
  obtain ⟨e1, e2⟩ := h1
  have hu : P.underlying t = some .bool := by
    unfold isBoolT at ht
    split at ht
    · assumption
    · cases ht
  have : (execOp ρ o).run P w = .ok (.value (.bool ((s == u) != neq))) w := by
    have hq : (Op.equal t (.bool s) (.bool u)).run P w = .ok (s == u) w := by
      unfold Op.equal
      rw [show Op.maxDepth = 9999 + 1 from rfl]
      unfold Op.equalIn
      rw [Sem.run_bind, run_underlying hu]
      rfl
    cases neq <;> subst hop <;> simp [execOp, ho, e1, e2, eqGuard, binOp, hq]
  rw [this]
  exact h3

theorem eqItems_ints {e : TypeId} {k : IntKind} (he : P.underlying e = some (.int k)) (d : Nat) (xs ys : List Int) (w : World) : ∀ (is : List Nat), (∀ i ∈ is, i < xs.length ∧ i < ys.length) →
    (Op.eqItems (d + 1) e 1 (xs.map (Value.int k)).toArray (ys.map (Value.int k)).toArray is).run P w = .ok (is.all fun i => xs.getD i 0 == ys.getD i 0) w
  | [], _ => by simp [Op.eqItems]
  | i :: is, h => by
    obtain ⟨hx, hy⟩ := h i (by simp)
    have hp : P.plainKey e = true := by unfold Program.plainKey; rw [he]
    have e1 : (xs.map (Value.int k)).toArray[i * 1]? = some (.int k (xs.getD i 0)) := by
      simp [List.getD, List.getElem?_eq_getElem hx]
    have e2 : (ys.map (Value.int k)).toArray[i * 1]? = some (.int k (ys.getD i 0)) := by
      simp [List.getD, List.getElem?_eq_getElem hy]
    have ih := eqItems_ints he d xs ys w is fun j hj => h j (by simp [hj])
    simp only [Op.eqItems, Sem.run_bind, run_part_plain w hp e1, run_part_plain w hp e2, Result.andThen_ok, run_equalIn_int w d e k k _ _ he, List.all_cons]
    cases hb : (xs.getD i 0 == ys.getD i 0)
    · simp
    · simpa using ih

theorem all_getD (xs ys : List Int) (n : Nat) (hx : xs.length = n) (hy : ys.length = n) : ((List.range n).all fun i => xs.getD i 0 == ys.getD i 0) = (xs == ys) := by
  rw [Bool.eq_iff_iff]
  simp only [List.all_eq_true, List.mem_range, beq_iff_eq]
  constructor
  · intro h
    apply List.ext_getElem (by omega)
    intro i h1 h2
    have := h i (by omega)
    simpa [List.getD, List.getElem?_eq_getElem h1, List.getElem?_eq_getElem h2] using this
  · intro h i _; rw [h]

theorem eqA_ok {ρ : Operand → Value} {op : BinOp} {neq : Bool} {t yt : TypeId} {x y : Operand} {n : Nat} {k : IntKind} (ho : o.op = .binOp op t x y yt) (ht : arrOf P t = some (n, k)) (hop : op = if neq then .neq else .eql) (h : In.wp P (.eqA n k neq) [ρ x, ρ y] w K) : uponK P K ((execOp ρ o).run P w) := by
  obtain ⟨xs, ys, h1, hx, hy, h3⟩ := h
  simp only [List.cons.injEq, and_true] at h1
  obtain ⟨e1, e2⟩ := h1
  unfold arrOf at ht
  split at ht
  case h_2 => cases ht
  rename_i m e hu
  split at ht
  case h_2 => cases ht
  rename_i k' he hsz
  split at ht
  case isFalse => cases ht
  rename_i hg
  cases ht
  obtain ⟨i, hi⟩ := info_of_underlying he
  have hc : P.cellsOf e = 1 := by
    have h1 := run_sizeOf w hi
    rw [run_sizeOf' hsz w] at h1
    injection h1 with h1 _
    exact h1.symm
  have hq : (Op.equalIn 10000 t (.agg (xs.map (Value.int k)).toArray) (.agg (ys.map (Value.int k)).toArray)).run P w = .ok (xs == ys) w := by
    rw [show 10000 = 9998 + 1 + 1 from rfl, run_equalIn_array w (9998 + 1) _ _ hu hi, hc, eqItems_ints he 9998 xs ys w _ (fun i hi => by rw [List.mem_range] at hi; omega), all_getD xs ys n hx hy]
  have : (execOp ρ o).run P w = .ok (.value (.bool ((xs == ys) != neq))) w := by
    cases neq <;> subst hop <;> simp [execOp, ho, e1, e2, run_eqGuard_agg w _ t _ _ _ _ hg, run_eql_struct, run_neq_struct, hq]
  rw [this]
  exact h3

theorem litZ_ok {ρ : Operand → Value} {t e : TypeId} {n m : Nat} {parts : Array (Nat × Operand)} {z : List Value} (ho : o.op = .build t parts) (hu : P.underlying t = some (.array n e)) (hz : zeroAt P t = some z) (hs : sizeOfT P e = some m) (hp : parts.isEmpty = true)
    (h : In.wp P (.litG z []) [] w K) : uponK P K ((execOp ρ o).run P w) := by
  obtain ⟨r, h1, h3⟩ := h
  simp only [fillG, Option.some.injEq] at h1
  subst h1
  have hpe : parts = #[] := by simpa using hp
  subst hpe
  simp only [zeroAt, Option.map_eq_some_iff, Option.bind_eq_some_iff] at hz
  obtain ⟨v, ⟨i, hi, hv⟩, rfl⟩ := hz
  have : (execOp ρ o).run P w = .ok (.value (.agg v.cells)) w := by
    simp [execOp, ho, Instr.build, zeroValue, typeInfo, hi, hv, run_underlying hu, run_sizeOf' hs, Instr.fill]
  rw [this]
  have e : (v.cells.toList).toArray = v.cells := by simp
  rw [e] at h3
  exact h3

theorem slS_ok {ρ : Operand → Value} {t : TypeId} {x : Operand} {lo hi : Option Operand} (ho : o.op = .slice t x lo hi none) (ht : isStr P t = true)
    (h : In.wp P (.slS lo.isSome hi.isSome) (ρ x :: ((lo.map ρ).toList ++ (hi.map ρ).toList)) w K) : uponK P K ((execOp ρ o).run P w) := by
  obtain ⟨s, rest, h1, h2⟩ := h
  simp only [List.cons.injEq] at h1
  obtain ⟨e1, rfl⟩ := h1
  have he := isStr_eq ht
  have key : ∃ l hh, (Instr.sliceBounds false s.size s.size (lo.map ρ) (hi.map ρ) none).run P w = .ok (l, hh, s.size) w ∧ K (.string (s.extract l hh)) w := by
    cases lo with
    | none =>
      cases hi with
      | none =>
        simp only [bnd, Option.isSome_none, Bool.false_eq_true, if_false] at h2
        obtain ⟨_, h3, h4, h5⟩ := h2
        exact ⟨0, s.size, by simp [Instr.sliceBounds], h5⟩
      | some y =>
        simp only [bnd, Option.isSome_none, Option.isSome_some, Bool.false_eq_true, if_false, if_true, Option.map_some, Option.map_none, Option.toList_none, Option.toList_some, List.nil_append, List.cons.injEq] at h2
        obtain ⟨k, p, r, ⟨e3, rfl⟩, _, h3, h4, h5⟩ := h2
        exact ⟨0, p, by simp [Instr.sliceBounds, run_bound e3 h4], h5⟩
    | some v =>
      cases hi with
      | none =>
        simp only [bnd, Option.isSome_none, Option.isSome_some, Bool.false_eq_true, if_false, if_true, Option.map_some, Option.map_none, Option.toList_none, Option.toList_some, List.append_nil, List.cons.injEq] at h2
        obtain ⟨k, p, r, ⟨e3, rfl⟩, _, h3, h4, h5⟩ := h2
        exact ⟨p, s.size, by simp [Instr.sliceBounds, run_bound e3 h3], h5⟩
      | some y =>
        simp only [bnd, Option.isSome_some, if_true, Option.map_some, Option.toList_some, List.cons_append, List.nil_append, List.cons.injEq] at h2
        obtain ⟨k, p, r, ⟨e3, rfl⟩, k', p', r', e4, _, h3, h4, h5⟩ := h2
        exact ⟨p, p', by simp [Instr.sliceBounds, run_bound e3 h3, run_bound (List.cons.inj e4).1 h4], h5⟩
  obtain ⟨l, hh, hr, hk⟩ := key
  have : (execOp ρ o).run P w = .ok (.value (.string (s.extract l hh))) w := by
    simp [execOp, ho, e1, Instr.sliceAt, Instr.slice, run_underlying he, hr]
  rw [this]
  exact hk

theorem toByt_ok {ρ : Operand → Value} {s d e : TypeId} {x : Operand} (ho : o.op = .convert s d x) (hs : isStr P s = true) (hd : bytesOf P d = some e) (h : In.wp P .toByt [ρ x] w K) : uponK P K ((execOp ρ o).run P w) := by
  obtain ⟨str, h1, h2⟩ := h
  simp only [List.cons.injEq, and_true] at h1
  obtain ⟨hu, hu8, _⟩ := bytesOf_eq hd
  have : (execOp ρ o).run P w = .ok (.value (.slice (some ⟨w.heap.size, 0, none⟩) str.size (grownCap w str.size 0 e))) (Lib.bytesWorld w e str) := by
    unfold execOp
    rw [ho]
    show (do pure (Next.value (← convert s d (ρ x))) : Sem Next).run P w = _
    rw [h1, Sem.run_bind, Lib.run_convert_string_bytes w s d e str (isStr_eq hs) hu hu8]
    rfl
  rw [this]
  refine h2 _ _ (fun j hj => ?_) ⟨rfl, rfl, rfl, by rw [Lib.bytesWorld_size]; omega, fun j hj => Lib.bytesWorld_at_old w e str j hj⟩
  have hj' : j < str.size := by rw [Lib.size_eq]; exact hj
  have := Lib.bytesWorld_cell w e str j hj'
  rw [Addr.add_mid, Nat.zero_add, this, List.getD_eq_getElem?_getD, List.getElem?_eq_getElem hj]
  rfl

theorem int2_ok {ρ : Operand → Value} {op : BinOp} {t yt : TypeId} {x y : Operand} (ho : o.op = .binOp op t x y yt) (h : In.wp P (.int2 op) [ρ x, ρ y] w K) : uponK P K ((execOp ρ o).run P w) := by
  obtain ⟨k, a, b, v, h1, h2, h3⟩ := h
  simp only [List.cons.injEq, and_true] at h1
  obtain ⟨e1, e2⟩ := h1
  have : (execOp ρ o).run P w = .ok (.value v) w := by
    cases op <;> simp only [intV2, Option.some.injEq, reduceCtorEq] at h2
    · split at h2
      · cases h2
      · rename_i hb
        cases h2
        simp [execOp, ho, e1, e2, eqGuard, binOp, Op.intDiv, hb]
    · subst h2; simp [execOp, ho, e1, e2, eqGuard, binOp, Op.intBits]
    · subst h2; simp [execOp, ho, e1, e2, eqGuard, binOp, Op.intBits]
  rw [this]
  exact h3

theorem neg_ok {ρ : Operand → Value} {t : TypeId} {x : Operand} (ho : o.op = .unOp .neg t x) (h : In.wp P .neg [ρ x] w K) : uponK P K ((execOp ρ o).run P w) := by
  obtain ⟨k, a, h1, h2⟩ := h
  simp only [List.cons.injEq, and_true] at h1
  have : (execOp ρ o).run P w = .ok (.value (.int k (k.wrap (0 - a)))) w := by
    simp [execOp, ho, h1, Op.unary, Op.intArith]
  rw [this]
  exact h2

theorem field_run {ρ : Operand → Value} {t : TypeId} {x : Operand} {f : Nat} {fs : Array Go.Field} {g : Go.Field} (ho : o.op = .field t x f) (hu : P.underlying t = some (.struct fs)) (hg : fs[f]? = some g) {cs : List Value} (hx : ρ x = .agg cs.toArray) {v : Value}
    (hp : (part g.type cs.toArray g.offset).run P w = .ok v w) (hk : K v w) : uponK P K ((execOp ρ o).run P w) := by
  have : (execOp ρ o).run P w = .ok (.value v) w := by
    unfold execOp
    rw [ho]
    show (do pure (Next.value (← Instr.field t (ρ x) f)) : Sem Next).run P w = _
    simp [Instr.field, run_underlying hu, hg, hx, asAgg, hp]
  rw [this]
  exact hk

theorem fld1_ok {ρ : Operand → Value} {t : TypeId} {x : Operand} {f : Nat} {fs : Array Go.Field} {g : Go.Field} (ho : o.op = .field t x f) (hu : P.underlying t = some (.struct fs)) (hg : fs[f]? = some g) (ha : isAggT P g.type = some false)
    (h : In.wp P (.fld1 g.offset) [ρ x] w K) : uponK P K ((execOp ρ o).run P w) := by
  obtain ⟨cs, v, h1, h2, h3⟩ := h
  simp only [List.cons.injEq, and_true] at h1
  refine field_run ho hu hg h1 (v := v) ?_ h3
  simp [part, run_isAgg ha, h2]

theorem fldN_ok {ρ : Operand → Value} {t : TypeId} {x : Operand} {f n : Nat} {fs : Array Go.Field} {g : Go.Field} (ho : o.op = .field t x f) (hu : P.underlying t = some (.struct fs)) (hg : fs[f]? = some g) (ha : isAggT P g.type = some true) (hs : sizeOfT P g.type = some n)
    (h : In.wp P (.fldN g.offset n) [ρ x] w K) : uponK P K ((execOp ρ o).run P w) := by
  obtain ⟨cs, h1, h3⟩ := h
  simp only [List.cons.injEq, and_true] at h1
  refine field_run ho hu hg h1 ?_ h3
  simp [part, run_isAgg ha, run_sizeOf' hs, List.extract_eq_take_drop]

theorem foldl_put : ∀ (vs : List Value) (off s : Nat) (cs : List Value), off + s + vs.length ≤ cs.length → ((vs.zipIdx s).foldl (fun (cs : Array Value) (x : Value × Nat) => cs.setIfInBounds (off + x.2) x.1) cs.toArray) = (cs.take (off + s) ++ vs ++ cs.drop (off + s + vs.length)).toArray := by
  intro vs
  induction vs with
  | nil => intro off s cs h; simp
  | cons v r ih =>
    intro off s cs h
    simp only [List.length_cons] at h
    rw [List.zipIdx_cons, List.foldl_cons]
    have e : (cs.toArray.setIfInBounds (off + s) v) = (cs.set (off + s) v).toArray := by simp
    rw [e, ih off (s + 1) (cs.set (off + s) v) (by simp; omega)]
    have h1 : (cs.set (off + s) v).take (off + (s + 1)) = cs.take (off + s) ++ [v] := by
      rw [show off + (s + 1) = off + s + 1 by omega, List.take_succ_eq_append_getElem (by simp; omega), List.take_set_of_le (Nat.le_refl _)]
      simp
    have h2 : (cs.set (off + s) v).drop (off + (s + 1) + r.length) = cs.drop (off + s + (r.length + 1)) := by
      rw [List.drop_set_of_lt (by omega)]
      congr 1; omega
    rw [h1, h2]
    simp

theorem fill_G {place : Nat → Option (Nat × Nat)} : ∀ (is : List Nat) (pls : List (Nat × Nat)) (z : List Value) (vs : List Value) (r : List Value), (∀ (j i : Nat), is[j]? = some i → place i = pls[j]?) → is.length = pls.length → fillG z pls vs = some r → Instr.fill place z.toArray (is.zip vs) = some r.toArray := by
  intro is
  induction is with
  | nil =>
    intro pls z vs r hp hl h
    cases pls with
    | nil =>
      cases vs with
      | nil => simp only [fillG, Option.some.injEq] at h; subst h; rfl
      | cons v vs => simp [fillG] at h
    | cons p pls => simp at hl
  | cons i is ih =>
    intro pls z vs r hp hl h
    cases pls with
    | nil => simp at hl
    | cons p pls =>
      obtain ⟨o, n⟩ := p
      cases vs with
      | nil => simp [fillG] at h
      | cons v vs =>
        simp only [fillG] at h
        split at h
        · rename_i hc
          have hpl : place i = some (o, n) := hp 0 i rfl
          have hvl : v.cells.toList.length = n := by simpa using hc.1
          rw [List.zip_cons_cons]
          unfold Instr.fill
          simp only [hpl]
          rw [if_neg (by simp only [Bool.or_eq_true, decide_eq_true_eq, not_or, ne_eq, Decidable.not_not]; exact ⟨hc.1, by simp only [List.size_toArray]; omega⟩)]
          have hf := foldl_put v.cells.toList o 0 z (by rw [hvl]; omega)
          have e : (v.cells.zipIdx.foldl (fun (cs : Array Value) (x : Value × Nat) => cs.setIfInBounds (o + x.2) x.1) z.toArray) = (z.take o ++ v.cells.toList ++ z.drop (o + n)).toArray := by
            rw [hvl] at hf
            simp only [Nat.add_zero] at hf
            rw [← hf, ← Array.foldl_toList]
            simp
          show Instr.fill place (v.cells.zipIdx.foldl (fun cs (c, j) => cs.setIfInBounds (o + j) c) z.toArray) (is.zip vs) = some r.toArray
          rw [e]
          exact ih pls _ vs r (fun j i h => by have := hp (j + 1) i (by simpa using h); simpa using this) (by simpa using hl) h
        · cases h

theorem plsOf_ok {fs : List Go.Field} : ∀ {is : List Nat} {pls : List (Nat × Nat)}, plsOf P fs is = some pls → is.length = pls.length ∧ ∀ (j i : Nat), is[j]? = some i → ∃ (f : Go.Field) (n : Nat), fs[i]? = some f ∧ sizeOfT P f.type = some n ∧ pls[j]? = some (f.offset, n) := by
  intro is
  induction is with
  | nil => intro pls h; simp only [plsOf, Option.some.injEq] at h; subst h; simp
  | cons i r ih =>
    intro pls h
    simp only [plsOf, Option.bind_eq_some_iff, Option.map_eq_some_iff] at h
    obtain ⟨f, hf, n, hn, q, hq, rfl⟩ := h
    obtain ⟨h1, h2⟩ := ih hq
    refine ⟨by simp [h1], fun j k hj => ?_⟩
    cases j with
    | zero => simp only [List.getElem?_cons_zero, Option.some.injEq] at hj; subst hj; exact ⟨f, n, hf, hn, rfl⟩
    | succ j => simp only [List.getElem?_cons_succ] at hj ⊢; exact h2 j k hj

theorem litG_ok {ρ : Operand → Value} {t : TypeId} {parts : Array (Nat × Operand)} {fs : Array Go.Field} {z : List Value} {pls : List (Nat × Nat)} (ho : o.op = .build t parts) (hu : P.underlying t = some (.struct fs)) (hz : zeroAt P t = some z)
    (hpls : plsOf P fs.toList (parts.toList.map (·.1)) = some pls) (hall : (fs.toList.all fun f => (sizeOfT P f.type).isSome) = true)
    (h : In.wp P (.litG z pls) (parts.toList.map fun p => ρ p.2) w K) : uponK P K ((execOp ρ o).run P w) := by
  obtain ⟨r, h1, h3⟩ := h
  simp only [zeroAt, Option.map_eq_some_iff, Option.bind_eq_some_iff] at hz
  obtain ⟨v, ⟨i, hi, hv⟩, rfl⟩ := hz
  obtain ⟨k1, k2⟩ := plsOf_ok hpls
  have hparts : (parts.map fun (p : Nat × Operand) => (p.1, ρ p.2)).toList = (parts.toList.map (·.1)).zip (parts.toList.map fun p => ρ p.2) := by
    simp only [Array.toList_map]
    generalize parts.toList = l
    induction l with
    | nil => rfl
    | cons p r ih => simp [ih]
  have hfill : Instr.fill (fun x => (fs.toList.map fun f => (f.offset, (sizeOfT P f.type).getD 0))[x]?) v.cells.toList.toArray ((parts.toList.map (·.1)).zip (parts.toList.map fun p => ρ p.2)) = some r.toArray := by
    refine fill_G _ pls _ _ r (fun j i hj => ?_) k1 h1
    obtain ⟨f, n, e1, e2, e3⟩ := k2 j i hj
    simp only [List.getElem?_map, e1, Option.map_some, e2, e3, Option.getD_some]
  have hpl := run_placesOf hall w
  have : (execOp ρ o).run P w = .ok (.value (.agg r.toArray)) w := by
    simp only [Array.toArray_toList] at hfill
    simp only [execOp, ho, Instr.build, Sem.run_bind, zeroValue, typeInfo, run_program, Result.andThen_ok, hi, Sem.run_pure, hv, run_underlying hu]
    rw [Array.mapM_eq_mapM_toList]
    simp only [Sem.run_map, hpl, Result.andThen_ok]
    have e : (fun (x : Nat) => (fs.toList.map fun f => (f.offset, (sizeOfT P f.type).getD 0)).toArray[x]?) = (fun (x : Nat) => (fs.toList.map fun f => (f.offset, (sizeOfT P f.type).getD 0))[x]?) := by funext x; simp
    rw [hparts]
    simp only [e, hfill]
    rfl
  rw [this]
  exact h3

theorem cap_ok {ρ : Operand → Value} {c : Call} {x : Operand} {t : TypeId} {n : Nat} (ho : o.op = .call c) (hc : c.callee = .builtin .cap) (hx : c.args = #[x]) (ht : c.argTypes = #[t]) (hn : sliceSz P t = some n) (h : In.wp P .cap [ρ x] w K) : uponK P K ((execOp ρ o).run P w) := by
  obtain ⟨a, m, k, h1, h2⟩ := h
  simp only [List.cons.injEq, and_true] at h1
  obtain ⟨e, he, _⟩ := sliceSz_eq hn
  have : (execOp ρ o).run P w = .ok (.value (goInt k)) w := by
    simp [execOp, ho, resolve, hc, hx, ht, h1, invoke, builtin, Builtin.cap_, run_underlying he]
  rw [this]
  exact h2

theorem inv_ok {ρ : Operand → Value} {c : Call} {r : Operand} {m : String} (ho : o.op = .call c) (hc : c.callee = .invoke r m) (h : In.wp P (.inv m) (ρ r :: c.args.toList.map ρ) w K) : uponK P K ((execOp ρ o).run P w) := by
  obtain ⟨f, args', h1, h2⟩ := h
  have hargs : #[ρ r] ++ c.args.map ρ = (ρ r :: c.args.toList.map ρ).toArray := by apply Array.ext'; simp
  have : (execOp ρ o).run P w = .ok (.enter f args') w := by
    simp only [execOp, ho, resolve, hc, pure_bind, hargs]
    exact h1
  rw [this]
  exact h2

theorem resC_ok {args args' : List SV} {i : In} (h : resC P o args = some (i, args')) {η : Nat → Value} (hw : i.wp P (args'.map (SV.val η)) w K) : opWp P o (args.map (SV.val η)) w K := by
  intro ρ hρ
  unfold resC at h
  split at h
  · rename_i op t x y yt ho
    rw [ho] at hρ
    have ha := two_args hρ
    split at h
    · split at h
      · rename_i hop; cases h; rw [ha] at hw; exact eqS_ok (neq := false) ho hop hw
      · split at h
        · rename_i hop; cases h; rw [ha] at hw; exact eqS_ok (neq := true) ho hop hw
        · cases h; exact hw.elim
    · split at h
      · rename_i ht
        split at h
        · rename_i hop; cases h; rw [ha] at hw; exact eqB_ok (neq := false) ho ht hop hw
        · split at h
          · rename_i hop; cases h; rw [ha] at hw; exact eqB_ok (neq := true) ho ht hop hw
          · cases h; exact hw.elim
      · split at h
        · cases h; rw [ha] at hw; exact int2_ok ho hw
        · split at h
          · rename_i x hx
            obtain ⟨n, k⟩ := x
            split at h
            · rename_i hop; cases h; rw [ha] at hw; exact eqA_ok (neq := false) ho hx hop hw
            · split at h
              · rename_i hop; cases h; rw [ha] at hw; exact eqA_ok (neq := true) ho hx hop hw
              · cases h; exact hw.elim
          · cases h; exact hw.elim
  · rename_i t x ho
    rw [ho] at hρ
    have ha := one_arg hρ
    split at h
    · cases h; rw [ha] at hw; exact neg_ok ho hw
    · cases h; exact hw.elim
  · rename_i t x f ho
    rw [ho] at hρ
    have ha := one_arg hρ
    split at h
    · rename_i fs hu
      split at h
      · rename_i g hg
        split at h
        · rename_i n hagg hsz
          cases h; rw [ha] at hw; exact fldN_ok ho hu hg hagg hsz hw
        · rename_i hagg
          cases h; rw [ha] at hw; exact fld1_ok ho hu hg hagg hw
        · cases h; exact hw.elim
      · cases h; exact hw.elim
    · cases h; exact hw.elim
  · rename_i t parts ho
    rw [ho] at hρ
    split at h
    · rename_i fs hu
      split at h
      · rename_i z pls hz hpls
        split at h
        · rename_i hc
          cases h
          simp only [Bool.and_eq_true] at hc
          have ha : args.map (SV.val η) = parts.toList.map fun p => ρ p.2 := by
            rw [← hρ]
            simp [Op.operands]
          rw [ha] at hw
          exact litG_ok ho hu hz hpls hc.1 hw
        · cases h; exact hw.elim
      · cases h; exact hw.elim
    · rename_i n e hu
      split at h
      · rename_i z m hz hs
        split at h
        · rename_i hp
          cases h
          exact litZ_ok ho hu hz hs hp hw
        · cases h; exact hw.elim
      · cases h; exact hw.elim
    · cases h; exact hw.elim
  · rename_i t x lo hi ho
    rw [ho] at hρ
    split at h
    · rename_i ht
      cases h
      refine slS_ok ho ht ?_
      have ha : args.map (SV.val η) = ρ x :: ((lo.map ρ).toList ++ (hi.map ρ).toList) := by
        rw [← hρ]
        cases lo <;> cases hi <;> simp [Op.operands]
      rw [ha] at hw
      exact hw
    · cases h; exact hw.elim
  · rename_i s d x ho
    rw [ho] at hρ
    have ha := one_arg hρ
    split at h
    · rename_i hc
      cases h
      simp only [Bool.and_eq_true] at hc
      obtain ⟨e, he⟩ := Option.isSome_iff_exists.1 hc.2
      rw [ha] at hw
      exact toByt_ok ho hc.1 he hw
    · cases h; exact hw.elim
  · rename_i c ho
    rw [ho] at hρ
    split at h
    · rename_i r m hc
      cases h
      have ha : args.map (SV.val η) = ρ r :: c.args.toList.map ρ := by simpa [Op.operands, Call.operands, hc] using hρ.symm
      rw [ha] at hw
      exact inv_ok ho hc hw
    · rename_i hc
      split at h
      · rename_i x t hx ht
        have hx := arr_of hx
        have ht := arr_of ht
        have ha : args.map (SV.val η) = [ρ x] := one_arg (by simpa [Op.operands, Call.operands, hc, hx] using hρ)
        split at h
        · rename_i hs
          obtain ⟨n, hs⟩ := Option.isSome_iff_exists.1 hs
          cases h; rw [ha] at hw; exact cap_ok ho hc hx ht hs hw
        · cases h; exact hw.elim
      · cases h; exact hw.elim
    · cases h; exact hw.elim
  · cases h; exact hw.elim

theorem resX_ok (hn : Named P) {args args' : List SV} {i : In} (h : resX P o args = some (i, args')) {η : Nat → Value} (hw : i.wp P (args'.map (SV.val η)) w K) : opWp P o (args.map (SV.val η)) w K := by
  unfold resX at h
  split at h
  · rename_i x hx; cases h; exact resA_ok hn hx hw
  · split at h
    · rename_i x hx; cases h; exact resB_ok hn hx hw
    · exact resC_ok h hw

theorem bind_val {s : Sem Value} {f : Value → Value} {n : Next} {w w' : World} (h : (do pure (Next.value (f (← s))) : Sem Next).run P w = .ok n w') : ∃ v, n = .value v := by
  rw [Sem.run_bind] at h
  cases hq : s.run P w with
  | ok v w1 => rw [hq] at h; simp only [Result.andThen_ok, Sem.run_pure] at h; cases h; exact ⟨_, rfl⟩
  | halt x w1 => rw [hq] at h; simp [Result.andThen] at h

/-- Where an operation that looks gives something, it is a value. -/
theorem value_only {o : Oper} (hl : lookB o = 2) {ρ : Operand → Value} {w w' : World} {n : Next} (h : (execOp ρ o).run P w = .ok n w') : ∃ v, n = .value v := by
  unfold lookB at hl
  cases ho : o.op with
  | load t x => exact bind_val (s := Instr.loadAt t (ρ x)) (f := id) (by unfold execOp at h; rw [ho] at h; exact h)
  | extract x i => exact bind_val (s := Instr.extract (ρ x) i) (f := id) (by unfold execOp at h; rw [ho] at h; exact h)
  | indexAddr t x y => exact bind_val (s := Instr.indexAt t (ρ x) (ρ y)) (f := id) (by unfold execOp at h; rw [ho] at h; exact h)
  | unOp op t x => exact bind_val (s := Op.unary op (ρ x)) (f := id) (by unfold execOp at h; rw [ho] at h; exact h)
  | convert s d x => exact bind_val (s := convert s d (ρ x)) (f := id) (by unfold execOp at h; rw [ho] at h; exact h)
  | slice t x lo hi mx => exact bind_val (s := Instr.sliceAt t (ρ x) (lo.map ρ) (hi.map ρ) (mx.map ρ)) (f := id) (by unfold execOp at h; rw [ho] at h; exact h)
  | binOp op t x y yt =>
    exact bind_val (s := do eqGuard op t x y (ρ x) (ρ y); binOp op t (ρ x) (ρ y)) (f := id) (by unfold execOp at h; rw [ho] at h; exact h)
  | call c =>
    rw [ho] at hl
    dsimp only at hl
    split at hl
    · rename_i hc
      unfold execOp at h
      rw [ho] at h
      simp only [resolve, hc, invoke, builtin, Sem.run_bind, Sem.run_pure, Result.andThen_ok] at h
      cases hq : (Builtin.len_ c.argTypes o.type (c.args.map ρ)).run P w with
      | ok v w1 => rw [hq] at h; simp only [Result.andThen_ok, Sem.run_pure] at h; cases h; exact ⟨_, rfl⟩
      | halt x w1 => rw [hq] at h; simp [Result.andThen] at h
    · cases hl
  | _ => rw [ho] at hl; simp at hl

theorem res_wp (hn : Named P) : ∀ (p : Prog) (q : NP) (Q : Out → (Nat → Value) → World → Prop) (η : Nat → Value) (w : World), res P p = some q → q.wp P Q η w → p.wp P Q η w := by
  intro p
  induction p with
  | nil => intro q Q η w h hq; simp only [res, Option.some.injEq] at h; subst h; exact hq
  | op o args n k ih =>
    intro q Q η w h hq
    simp only [res, Option.bind_eq_some_iff, Option.map_eq_some_iff] at h
    obtain ⟨⟨i, args'⟩, h1, k', h2, rfl⟩ := h
    exact opWp_mono (fun v w' hk => ih k' Q _ _ h2 hk) (resX_ok hn h1 hq)
  | chk n k ih =>
    intro q Q η w h hq
    simp only [res, Option.map_eq_some_iff] at h
    obtain ⟨k', h2, rfl⟩ := h
    exact ⟨hq.1, ih k' Q _ _ h2 hq.2⟩
  | set n x k ih =>
    intro q Q η w h hq
    simp only [res, Option.map_eq_some_iff] at h
    obtain ⟨k', h2, rfl⟩ := h
    exact ih k' Q _ _ h2 hq
  | ite c a b k iha ihb ihk =>
    intro q Q η w h hq
    simp only [res, Option.bind_eq_some_iff, Option.map_eq_some_iff] at h
    obtain ⟨a', h1, b', h2, k', h3, rfl⟩ := h
    obtain ⟨t, g1, g2, g3⟩ := hq
    refine ⟨t, g1, fun ht => Prog.wp_mono _ _ _ _ _ ?_ (iha a' _ _ _ h1 (g2 ht)), fun ht => Prog.wp_mono _ _ _ _ _ ?_ (ihb b' _ _ _ h2 (g3 ht))⟩
    all_goals
      intro o η w ho
      cases o with
      | nrm => exact ihk k' Q _ _ h3 ho
      | ext => exact ho
      | ret vs => exact ho
  | loop b k ihb ihk =>
    intro q Q η w h hq
    simp only [res, Option.bind_eq_some_iff, Option.map_eq_some_iff] at h
    obtain ⟨b', h1, k', h2, rfl⟩ := h
    obtain ⟨n, hr⟩ := hq
    refine ⟨n, ?_⟩
    have key : ∀ n η w, roundsP (b'.wp P) (fun o η w => match o with | .ext => k'.wp P Q η w | o => Q o η w) n η w → roundsP (b.wp P) (fun o η w => match o with | .ext => k.wp P Q η w | o => Q o η w) n η w := by
      intro n
      induction n with
      | zero => intro η w h; exact h
      | succ n ihn =>
        intro η w hb
        refine Prog.wp_mono _ _ _ _ _ ?_ (ihb b' _ _ _ h1 hb)
        intro o η w ho
        cases o with
        | nrm => exact ihn _ _ ho
        | ext => exact ihk k' Q _ _ h2 ho
        | ret vs => exact ho
    exact key n η w hr
  | keep o args n k ih =>
    intro q Q η w h hq
    simp only [res] at h
    split at h
    · rename_i hl
      simp only [Option.bind_eq_some_iff, Option.map_eq_some_iff] at h
      obtain ⟨⟨i, args'⟩, h1, k', h2, rfl⟩ := h
      refine ⟨fun ρ hρ => ?_, ih k' Q _ _ h2 hq.2⟩
      have := resX_ok hn h1 hq.1 ρ hρ
      generalize hr : (execOp ρ o).run P w = r at this ⊢
      cases r with
      | ok nx w' =>
        obtain ⟨v, rfl⟩ := value_only hl hr
        obtain ⟨rfl, rfl⟩ : v = η n ∧ w' = w := this
        rfl
      | halt x w' => exact this.elim
    · cases h
  | look o args n k ih =>
    intro q Q η w h hq
    simp only [res] at h
    split at h
    · rename_i hl
      simp only [Option.bind_eq_some_iff, Option.map_eq_some_iff] at h
      obtain ⟨⟨i, args'⟩, h1, k', h2, rfl⟩ := h
      intro ρ hρ
      have := resX_ok hn h1 hq ρ hρ
      generalize hr : (execOp ρ o).run P w = r at this ⊢
      cases r with
      | ok nx w' =>
        obtain ⟨v, rfl⟩ := value_only hl hr
        obtain ⟨rfl, hk⟩ : w' = w ∧ _ := this
        exact ⟨v, rfl, ih k' Q _ _ h2 hk⟩
      | halt x w' => exact this.elim
    · cases h
  | draw k ih =>
    intro q Q η w h hq
    simp only [res, Option.map_eq_some_iff] at h
    obtain ⟨k', h2, rfl⟩ := h
    exact ih k' Q _ _ h2 hq
  | flip n k ih =>
    intro q Q η w h hq
    simp only [res, Option.map_eq_some_iff] at h
    obtain ⟨k', h2, rfl⟩ := h
    exact fun b => ih k' Q _ _ h2 (hq b)
  | exit => intro q Q η w h hq; simp only [res, Option.some.injEq] at h; subst h; exact hq
  | ret xs => intro q Q η w h hq; simp only [res, Option.some.injEq] at h; subst h; exact hq

theorem In.wp_mono {i : In} {args : List Value} {w : World} {K K' : Value → World → Prop} (h : ∀ v w, K v w → K' v w) (hi : i.wp P args w K) : i.wp P args w K' := by
  have hb : ∀ (b : Bool) (d : Nat) (l : List Value) (r r' : List Value → Nat → Prop), (∀ l n, r l n → r' l n) → bnd b d l r → bnd b d l r' := by
    intro b d l r r' h hb
    unfold bnd at hb ⊢
    split at hb
    · rename_i hbt; rw [if_pos hbt]; obtain ⟨k, n, rest, e, h'⟩ := hb; exact ⟨k, n, rest, e, h _ _ h'⟩
    · rename_i hbt; rw [if_neg hbt]; exact h _ _ hb
  cases i with
  | load => obtain ⟨a, v, h1, h2, h3⟩ := hi; exact ⟨a, v, h1, h2, h _ _ h3⟩
  | loadN n => obtain ⟨b, o, cs, h1, h2, h3, h4⟩ := hi; exact ⟨b, o, cs, h1, h2, h3, h _ _ h4⟩
  | store n => obtain ⟨b, o, cs, e, v, h1, h2, h3, h4, h5, h6⟩ := hi; exact ⟨b, o, cs, e, v, h1, h2, h3, h4, h5, h _ _ h6⟩
  | len => obtain ⟨a, n, c, h1, h2⟩ := hi; exact ⟨a, n, c, h1, h _ _ h2⟩
  | lenS => obtain ⟨s, h1, h2⟩ := hi; exact ⟨s, h1, h _ _ h2⟩
  | bin op => obtain ⟨k, x, y, v, h1, h2, h3⟩ := hi; exact ⟨k, x, y, v, h1, h2, h _ _ h3⟩
  | cv k => obtain ⟨k0, x, h1, h2⟩ := hi; exact ⟨k0, x, h1, h _ _ h2⟩
  | not => obtain ⟨b, h1, h2⟩ := hi; exact ⟨b, h1, h _ _ h2⟩
  | toStr => obtain ⟨v, bs, h1, h2, h3⟩ := hi; exact ⟨v, bs, h1, h2, h _ _ h3⟩
  | sl sz lo hi' mx =>
    obtain ⟨a, n, c, rest, h1, h2⟩ := hi
    exact ⟨a, n, c, rest, h1, hb _ _ _ _ _ (fun _ _ => hb _ _ _ _ _ (fun _ _ => hb _ _ _ _ _ (fun _ _ h3 => ⟨h3.1, h3.2.1, h3.2.2.1, h3.2.2.2.1, h _ _ h3.2.2.2.2⟩))) h2⟩
  | ia sz => obtain ⟨a, n, c, k, i, h1, h2, h3⟩ := hi; exact ⟨a, n, c, k, i, h1, h2, h _ _ h3⟩
  | app e =>
    rcases hi with hi | ⟨g, n, c, cs, a, bs, c', h1, h2, h3, h4, h5, h6⟩
    · obtain ⟨B, v, n, xs, u, bs, h1, h2, h3, h4, h5, h6⟩ := hi; exact .inl ⟨B, v, n, xs, u, bs, h1, h2, h3, h4, h5, fun v' w' a b c d => h _ _ (h6 v' w' a b c d)⟩
    · exact .inr ⟨g, n, c, cs, a, bs, c', h1, h2, h3, h4, h5, h _ _ h6⟩
  | appS e => obtain ⟨B, v, n, xs, s, h1, h2, h3, h4, h5⟩ := hi; exact ⟨B, v, n, xs, s, h1, h2, h3, h4, fun v' w' a b c d => h _ _ (h5 v' w' a b c d)⟩
  | call f =>
    refine Calls.mono (show Calls P f args.toArray w _ from hi) ?_
    intro e w' he
    cases e with
    | returned v => exact h _ _ he
    | panicked c => exact he
    | outgrown => exact he
  | alloc z => exact fun e => h _ _ (hi e)
  | box n => obtain ⟨v, h1, h2, h3⟩ := hi; exact ⟨v, h1, h2, fun e => h _ _ (h3 e)⟩
  | isNil k neq => obtain ⟨v, b, h1, h2, h3⟩ := hi; exact ⟨v, b, h1, h2, h _ _ h3⟩
  | ex i => obtain ⟨vs, v, h1, h2, h3⟩ := hi; exact ⟨vs, v, h1, h2, h _ _ h3⟩
  | sh op => obtain ⟨k, x, k', n, v, h1, h2, h3⟩ := hi; exact ⟨k, x, k', n, v, h1, h2, h _ _ h3⟩
  | bsl e => exact ⟨hi.1, h _ _ hi.2⟩
  | idxS => obtain ⟨s, k, i, b, h1, h2, h3⟩ := hi; exact ⟨s, k, i, b, h1, h2, h _ _ h3⟩
  | lit z offs => exact ⟨hi.1, hi.2.1, h _ _ hi.2.2⟩
  | appZ z =>
    obtain ⟨k, n, h2, h3, h4⟩ := hi
    refine ⟨k, n, h2, h3, ?_⟩
    rcases h4 with ⟨h1, h4⟩ | ⟨h31, b, c, cs, e, h1, h5, h6, h7, h8⟩
    · exact .inl ⟨h1, fun cap e hc => h _ _ (h4 cap e hc)⟩
    · exact .inr ⟨h31, b, c, cs, e, h1, h5, h6, fun hn => h _ _ (h7 hn), fun hn cap e hc => h _ _ (h8 hn cap e hc)⟩
  | rem => obtain ⟨k, x, y, h1, h2, h3⟩ := hi; exact ⟨k, x, y, h1, h2, h _ _ h3⟩
  | lenM =>
    rcases hi with ⟨h1, h2⟩ | ⟨r, es, cl, h1, h2, h3⟩
    · exact .inl ⟨h1, h _ _ h2⟩
    · exact .inr ⟨r, es, cl, h1, h2, h _ _ h3⟩
  | mm mx => obtain ⟨k, x, y, h1, h2⟩ := hi; exact ⟨k, x, y, h1, h _ _ h2⟩
  | mk e z => obtain ⟨k, n, k', m, h1, h2, h3, h4⟩ := hi; exact ⟨k, n, k', m, h1, h2, h3, h _ _ h4⟩
  | cpy => obtain ⟨b, o, cs, e, n, c, src, bs, h1, h2, h3, h4, h5⟩ := hi; exact ⟨b, o, cs, e, n, c, src, bs, h1, h2, h3, h4, h _ _ h5⟩
  | sla n => obtain ⟨a, h1, h2⟩ := hi; exact ⟨a, h1, h _ _ h2⟩
  | bslG sz => exact ⟨hi.1, fun e => h _ _ (hi.2 e)⟩
  | appG e sz => obtain ⟨B, v, n, xs, a, m, c, ys, h1, h2, h3, h4, h5, h6, h7, h8⟩ := hi; exact ⟨B, v, n, xs, a, m, c, ys, h1, h2, h3, h4, h5, h6, h7, fun v' w' a b c => h _ _ (h8 v' w' a b c)⟩
  | mkif t => obtain ⟨v, h1, h2⟩ := hi; exact ⟨v, h1, h _ _ h2⟩
  | mkfn f => exact h _ _ hi
  | callV =>
    obtain ⟨f, caps, rest, fn, h1, h2, h3, h4⟩ := hi
    refine ⟨f, caps, rest, fn, h1, h2, h3, Calls.mono h4 ?_⟩
    intro e w' he
    cases e with
    | returned v => exact h _ _ he
    | panicked c => exact he
    | outgrown => exact he
  | cap => obtain ⟨a, n, c, h1, h2⟩ := hi; exact ⟨a, n, c, h1, h _ _ h2⟩
  | inv m =>
    obtain ⟨f, args', h1, h2⟩ := hi
    refine ⟨f, args', h1, Calls.mono h2 ?_⟩
    intro e w' he
    cases e with
    | returned v => exact h _ _ he
    | panicked c => exact he
    | outgrown => exact he
  | mkMap => exact h _ _ hi
  | mapSet => obtain ⟨r, es, cl, k, n, v, h1, h2, h3, h4⟩ := hi; exact ⟨r, es, cl, k, n, v, h1, h2, h3, h _ _ h4⟩
  | lookM z => obtain ⟨r, es, cl, k, n, h1, h2, h3, h4⟩ := hi; exact ⟨r, es, cl, k, n, h1, h2, h3, h _ _ h4⟩
  | rangeM =>
    rcases hi with ⟨h1, h2⟩ | ⟨r, es, cl, h1, h2, h3⟩
    · exact .inl ⟨h1, h _ _ h2⟩
    · exact .inr ⟨r, es, cl, h1, h2, h _ _ h3⟩
  | nextM =>
    rcases hi with ⟨b, h1, h2, h3⟩ | ⟨b, r, seen, es, cl, h1, h2, h3, h4, h5, h6⟩
    · exact .inl ⟨b, h1, h2, h _ _ h3⟩
    · exact .inr ⟨b, r, seen, es, cl, h1, h2, h3, h4, fun e he hs w1 hw => h _ _ (h5 e he hs w1 hw), fun hs w1 hw => h _ _ (h6 hs w1 hw)⟩
  | entM => obtain ⟨b, r, s, seen, cl, es, e, born, h1, h2, h3, h4, h5, h6⟩ := hi; exact ⟨b, r, s, seen, cl, es, e, born, h1, h2, h3, h4, h5, h _ _ h6⟩
  | eqS neq => obtain ⟨s, t, h1, h2⟩ := hi; exact ⟨s, t, h1, h _ _ h2⟩
  | eqB neq => obtain ⟨s, t, h1, h2⟩ := hi; exact ⟨s, t, h1, h _ _ h2⟩
  | eqA n k neq => obtain ⟨s, t, h1, h2, h3, h4⟩ := hi; exact ⟨s, t, h1, h2, h3, h _ _ h4⟩
  | slS lo hi' =>
    obtain ⟨s, rest, h1, h2⟩ := hi
    exact ⟨s, rest, h1, hb _ _ _ _ _ (fun _ _ => hb _ _ _ _ _ (fun _ _ h3 => ⟨h3.1, h3.2.1, h3.2.2.1, h _ _ h3.2.2.2⟩)) h2⟩
  | toByt => obtain ⟨s, h1, h2⟩ := hi; exact ⟨s, h1, fun c w' a b => h _ _ (h2 c w' a b)⟩
  | bad => exact hi
  | int2 op => obtain ⟨k, x, y, v, h1, h2, h3⟩ := hi; exact ⟨k, x, y, v, h1, h2, h _ _ h3⟩
  | neg => obtain ⟨k, x, h1, h2⟩ := hi; exact ⟨k, x, h1, h _ _ h2⟩
  | fld1 o => obtain ⟨cs, v, h1, h2, h3⟩ := hi; exact ⟨cs, v, h1, h2, h _ _ h3⟩
  | fldN o n => obtain ⟨cs, h1, h2⟩ := hi; exact ⟨cs, h1, h _ _ h2⟩
  | litG z pls => obtain ⟨r, h1, h2⟩ := hi; exact ⟨r, h1, h _ _ h2⟩

theorem NP.wp_mono : ∀ (p : NP) (Q Q' : Out → (Nat → Value) → World → Prop) (η : Nat → Value) (w : World), (∀ o η w, Q o η w → Q' o η w) → p.wp P Q η w → p.wp P Q' η w := by
  intro p
  induction p with
  | nil => intro Q Q' η w h hp; exact h _ _ _ hp
  | op i args n k ih => intro Q Q' η w h hp; exact In.wp_mono (fun v w hk => ih Q Q' _ _ h hk) hp
  | chk n k ih => intro Q Q' η w h hp; exact ⟨hp.1, ih Q Q' _ _ h hp.2⟩
  | set n x k ih => intro Q Q' η w h hp; exact ih Q Q' _ _ h hp
  | ite c a b k iha ihb ihk =>
    intro Q Q' η w h hp
    obtain ⟨t, h1, h2, h3⟩ := hp
    refine ⟨t, h1, fun ht => iha _ _ _ _ ?_ (h2 ht), fun ht => ihb _ _ _ _ ?_ (h3 ht)⟩
    all_goals
      intro o η w ho
      cases o with
      | nrm => exact ihk Q Q' _ _ h ho
      | ext => exact h _ _ _ ho
      | ret vs => exact h _ _ _ ho
  | loop b k ihb ihk =>
    intro Q Q' η w h hp
    obtain ⟨n, hn⟩ := hp
    refine ⟨n, roundsP_mono (fun Q Q' η w hq hb => ihb Q Q' η w hq hb) ?_ n η w hn⟩
    intro o η w hne ho
    cases o with
    | nrm => exact (hne rfl).elim
    | ext => exact ihk Q Q' _ _ h ho
    | ret vs => exact h _ _ _ ho
  | keep i args n k ih => intro Q Q' η w h hp; exact ⟨hp.1, ih Q Q' _ _ h hp.2⟩
  | look i args n k ih => intro Q Q' η w h hp; exact In.wp_mono (fun v w' hk => ⟨hk.1, ih Q Q' _ _ h hk.2⟩) hp
  | draw k ih => intro Q Q' η w h hp; exact ih Q Q' _ _ h hp
  | flip n k ih => intro Q Q' η w h hp b; exact ih Q Q' _ _ h (hp b)
  | exit => intro Q Q' η w h hp; exact h _ _ _ hp
  | ret xs => intro Q Q' η w h hp; exact h _ _ _ hp

end
end Go.Nx

/- A function's program: what it promises, a call does. -/
namespace Go.Nx
open Go.Lx
open Go.CX (T deep pureRun isAggT sizeOfT run_isAgg run_sizeOf' pureRun_run)

/-- How a result is told: what its slot holds; what lies where its slot points. -/
inductive RK where
  | direct | cell | cells (n : Nat)
  deriving DecidableEq

def resK (k : List Value → World → Prop) : List RK → List Value → World → Prop
  | [], [], w => k [] w
  | .direct :: ks, x :: xs, w => resK (fun vs w => k (x :: vs) w) ks xs w
  | .cell :: ks, x :: xs, w => ∃ a v, x = .pointer (some a) ∧ w.cell? a = some v ∧ resK (fun vs w => k (v :: vs) w) ks xs w
  | .cells n :: ks, x :: xs, w => ∃ b o cs, x = .pointer (some ⟨b, o, none⟩) ∧ w.rangeAt b o cs ∧ cs.length = n ∧ resK (fun vs w => k (.agg cs.toArray :: vs) w) ks xs w
  | _, _, _ => False

/-- Results as one value. -/
def pack : List Value → Value
  | [v] => v
  | vs => .tuple vs.toArray

section
variable (P : Program)

def kindOf : ResultVar → Option (Tmp × RK)
  | .tmp t => some (t, .direct)
  | .cell c t => match isAggT P t with
    | some false => some (c, .cell)
    | some true => (sizeOfT P t).map fun n => (c, .cells n)
    | none => none

def argsF : List Nat → T SV → T SV
  | [], t => t
  | n :: r, t => argsF r (t.set deep n (some (.s n)))

def st0 (n : Nat) : BS := { fr := argsF (List.range n) .nil, cnt := n, known := [] }

structure FnP where
  p : NP
  ks : List RK

/-- The program of a function that is called with n arguments. -/
def fnP (f : FuncId) (n : Nat) : Option FnP :=
  (P.funcs[f]?).bind fun fn => fn.body.bind fun c =>
    if n ≤ fn.ntmps then
      (fn.results.toList.mapM (kindOf P)).bind fun rk =>
        (bld P (rk.map (·.1)) fn.ntmps (nf c none .skip) (st0 n)).bind fun r =>
          if (r.nx.isNone || rk.isEmpty) && r.ex.isEmpty then (res P r.p).map fun p => ⟨p, rk.map (·.2)⟩ else none
    else none

end

section
variable {P : Program}

theorem argsF_get : ∀ (l : List Nat) (t : T SV) (m : Nat) (y : SV), (argsF l t).get deep m = some y → (m ∈ l ∧ y = .s m) ∨ t.get deep m = some y := by
  intro l
  induction l with
  | nil => intro t m y h; exact .inr h
  | cons x r ih =>
    intro t m y h
    rcases ih _ m y h with ⟨h1, h2⟩ | h2
    · exact .inl ⟨List.mem_cons_of_mem _ h1, h2⟩
    · rcases CX.T.get_set _ _ _ _ _ _ h2 with ⟨rfl, h4⟩ | ⟨_, h4⟩
      · cases h4; exact .inl ⟨by simp, rfl⟩
      · exact .inr h4

def resG (a : Act) : ResultVar → Sem Value
  | .tmp t => pure (a.tmps.getD t undef)
  | .cell c t => do loadVar t (← asAddr (a.tmps.getD c undef))

theorem results_run {a : Act} : ∀ {rs : List ResultVar} {rk : List (Tmp × RK)} {xs : List Value} {w : World} {k : List Value → World → Prop}, rs.mapM (kindOf P) = some rk → ResAt (rk.map (·.1)) a xs → resK k (rk.map (·.2)) xs w →
    ∃ vs, (rs.mapM (resG a)).run P w = .ok vs w ∧ k vs w := by
  intro rs
  induction rs with
  | nil =>
    intro rk xs w k h hx hk
    simp only [List.mapM_nil, Option.pure_def, Option.some.injEq] at h
    subst h
    simp only [ResAt, List.map_nil] at hx
    subst hx
    exact ⟨[], rfl, hk⟩
  | cons r rs ih =>
    intro rk xs w k h hx hk
    simp only [List.mapM_cons, Option.bind_eq_bind, Option.bind_eq_some_iff, Option.pure_def, Option.some.injEq] at h
    obtain ⟨⟨t, kd⟩, h1, rk', h2, rfl⟩ := h
    simp only [ResAt, List.map_cons] at hx
    subst hx
    cases r with
    | tmp t' =>
      simp only [kindOf, Option.some.injEq, Prod.mk.injEq] at h1
      obtain ⟨rfl, rfl⟩ := h1
      obtain ⟨vs, k1, k2⟩ := ih h2 rfl hk
      exact ⟨_, by simp only [List.mapM_cons, resG, Sem.run_bind, Sem.run_pure, Result.andThen_ok, k1], k2⟩
    | cell c t' =>
      simp only [kindOf] at h1
      split at h1
      · rename_i hagg
        simp only [Option.some.injEq, Prod.mk.injEq] at h1
        obtain ⟨rfl, rfl⟩ := h1
        obtain ⟨ad, v, e1, e2, hk⟩ := hk
        obtain ⟨vs, k1, k2⟩ := ih h2 rfl hk
        refine ⟨v :: vs, ?_, k2⟩
        simp only [List.mapM_cons, resG, Sem.run_bind, Sem.run_pure, Result.andThen_ok, e1, asAddr, loadVar, run_isAgg hagg]
        simp [e2, k1]
      · rename_i hagg
        simp only [Option.map_eq_some_iff, Prod.mk.injEq] at h1
        obtain ⟨n, hn, rfl, rfl⟩ := h1
        obtain ⟨b, o, cs, e1, e2, e3, hk⟩ := hk
        obtain ⟨vs, k1, k2⟩ := ih h2 rfl hk
        refine ⟨.agg cs.toArray :: vs, ?_, k2⟩
        have hl : (loadCells ⟨b, o, none⟩ cs.length).run P w = .ok cs.toArray w :=
          run_loadCells_list (P := P) w ⟨b, o, none⟩ cs (fun j v hv => by rw [Addr.add_mid]; exact e2 j v hv)
        rw [e3] at hl
        simp only [List.mapM_cons, resG, Sem.run_bind, Sem.run_pure, Result.andThen_ok, k1, e1, asAddr, loadVar, run_isAgg hagg, if_true, run_sizeOf' hn, hl]
      · cases h1

theorem results_pack {fn : Func} {a : Act} {vs : List Value} {w : World} (h : (fn.results.toList.mapM (resG a)).run P w = .ok vs w) : (results fn a.tmps).run P w = .ok (pack vs) w := by
  have hrun : (results fn a.tmps).run P w = .ok (if h : vs.toArray.size = 1 then vs.toArray[0] else .tuple vs.toArray) w := by
    unfold results
    rw [Array.mapM_eq_mapM_toList]
    have e : (fun (r : ResultVar) => (match r with
        | .tmp t => (pure (a.tmps.getD t undef) : Sem Value)
        | .cell c t => do loadVar t (← asAddr (a.tmps.getD c undef)))) = resG a := by funext r; cases r <;> rfl
    rw [Sem.run_bind, Sem.run_map]
    erw [e, h]
    rfl
  rw [hrun]
  match vs with
  | [] => rfl
  | [v] => rfl
  | x :: y :: r => simp [pack]

/-- What a function's end is to show. -/
def postP (ks : List RK) (K : Value → World → Prop) : Out → (Nat → Value) → World → Prop
  | .ret xs, _, w => resK (fun vs w => K (pack vs) w) ks xs w
  | .nrm, _, w => ks = [] ∧ K (.tuple #[]) w
  | .ext, _, _ => False

/-- A CALL DOES WHAT THE FUNCTION's PROGRAM PROMISES. -/
theorem calls_of_np (hn : Named P) {f : FuncId} {vs : List Value} {z : FnP} (hf : fnP P f vs.length = some z) {w : World} {K : Value → World → Prop}
    (h : ∀ η : Nat → Value, (∀ i (hi : i < vs.length), η i = vs[i]) → z.p.wp P (postP z.ks K) η w) :
    In.wp P (.call f) vs w K := by
  show Calls P f vs.toArray w _
  simp only [fnP, Option.bind_eq_some_iff] at hf
  obtain ⟨fn, hfn, c, hc, hf⟩ := hf
  split at hf
  · rename_i hle
    simp only [Option.bind_eq_some_iff] at hf
    obtain ⟨rk, hrk, r, hr, hf⟩ := hf
    split at hf
    · rename_i hnx
      simp only [Option.map_eq_some_iff] at hf
      obtain ⟨p, hp, rfl⟩ := hf
      simp only [Bool.and_eq_true, Bool.or_eq_true, Option.isNone_iff_eq_none, List.isEmpty_iff] at hnx
      refine calls_of_wp hfn hc ?_
      let η : Nat → Value := fun i => vs.getD i undef
      have hη : ∀ i (hi : i < vs.length), η i = vs[i] := fun i hi => by simp [η, hi]
      have hw := res_wp hn _ _ _ _ _ hp (h η hη)
      have hfr : FR fn.ntmps (st0 vs.length) η { tmps := vs.toArray ++ Array.replicate (fn.ntmps - vs.toArray.size) undef, defers := [] } := by
        refine ⟨rfl, by simp; omega, fun t x hx => ?_, fun n hn => by simp [st0] at hn⟩
        rcases argsF_get _ _ _ _ hx with ⟨h1, rfl⟩ | h2
        · have hi : t < vs.length := by simpa using h1
          refine ⟨hi, ?_⟩
          rw [Array.getElem?_append_left (by simpa using hi)]
          simp [SV.val, hη t hi, hi]
        · rw [CX.T.get_nil] at h2; cases h2
      refine (((nf_ok (P := P) (nt := fn.ntmps) (rk.map (·.1)) c).1.1 .skip) _ _ hr).2 η _ w _ _ hfr hw ?_ ?_ ?_
      · intro s η' a' w' hs hf' _ hq
        have hrk0 : rk = [] := by
          rcases hnx.1 with h0 | h0
          · rw [h0] at hs; cases hs
          · exact h0
        subst hrk0
        obtain ⟨vs', k1, k2⟩ := results_run (P := P) (a := a') (xs := []) (w := w') (k := fun vs w => K (pack vs) w) hrk rfl hq.2
        exact ⟨hf'.defers, _, results_pack k1, k2⟩
      · intro i s η' a' w' hs _ _ hq
        exact hq.elim
      · intro xs η' a' w' hd hx hq
        obtain ⟨vs', k1, k2⟩ := results_run (P := P) (k := fun vs w => K (pack vs) w) hrk hx hq
        exact ⟨hd, _, results_pack k1, k2⟩
    · cases hf
  · cases hf

end
end Go.Nx
