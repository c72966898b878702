/- A known tag that is a struct: a leader of numbers, a text and tags; whether it is as by default. -/
import Derived.Test.YtlbojjkfjhnaaaaDoorMl
set_option linter.unusedSimpArgs false
set_option linter.unusedVariables false
namespace Go.Mr
open Go.Lx Go.Nx Go.Km Go.Mx Go.Kb
open Go.CX (T deep)

set_option linter.unusedSimpArgs false
set_option linter.unusedVariables false

abbrev tupE : SV := .k (.tuple #[])

/-- One part compared with another, where all ahead of it are the same. -/
def stg (m o : Nat) (ld eq : In) (k : NP) : NP :=
  .ite (.s m) (.set (m + 1) (.q 2 o) .nil) (.set (m + 1) tupE .nil) <|
  .ite (.s m) (.op ld [.s (m + 1)] (m + 2) (.set (m + 3) (.s (m + 2)) .nil)) (.set (m + 3) tupE .nil) <|
  .ite (.s m) (.set (m + 4) (.q 3 o) .nil) (.set (m + 4) tupE .nil) <|
  .ite (.s m) (.op ld [.s (m + 4)] (m + 5) (.set (m + 6) (.s (m + 5)) .nil)) (.set (m + 6) tupE .nil) <|
  .ite (.s m) (.op eq [.s (m + 3), .s (m + 6)] (m + 7) (.set (m + 8) (.s (m + 7)) .nil)) (.set (m + 8) tupE .nil) <|
  .ite (.s m) (.set (m + 9) (.s (m + 8)) .nil) (.set (m + 9) (.k (.bool false)) .nil) k

def p_zzL (fT : FuncId) : FnP := ⟨.op (.box 5) [.s 0] 2 <| .chk 2 <| .op (.box 5) [.s 1] 3 <| .chk 3 <| .op .load [.q 2 0] 4 <| .op .load [.q 3 0] 5 <| .op (.bin .eql) [.s 4, .s 5] 6 <|
  stg 6 1 .load (.bin .eql) <| stg 15 2 .load (.eqS false) <| stg 24 3 .load (.bin .eql) <| stg 33 4 (.loadN 1) (.call fT) <| .ret [.s 42], [.direct]⟩

def zzBody : NP := (.op .nextM [.s 23] 25 <|
    .op (.ex 0) [.s 25] 26 <|
    .ite (.s 26)
      (.nil)
      (.exit) <|
    .op .entM [.s 23] 27 <|
    .op (.ex 0) [.s 27] 28 <|
    .op (.ex 1) [.s 27] 29 <|
    .op .load [.q 3 0] 30 <|
    .op .bad [] 31 <|
    .op (.ex 0) [.s 31] 32 <|
    .op (.ex 1) [.s 31] 33 <|
    .op .not [.s 33] 34 <|
    .ite (.s 34)
      (.set 35 (.k (.tuple #[])) <|
      .nil)
      (.set 35 (.s 29) <|
      .nil) <|
    .ite (.s 34)
      (.set 37 (.k (.tuple #[])) <|
      .nil)
      (.op (.isNil 1 false) [.s 35] 36 <|
      .set 37 (.s 36) <|
      .nil) <|
    .ite (.s 34)
      (.set 38 (.k (.tuple #[])) <|
      .nil)
      (.set 38 (.s 32) <|
      .nil) <|
    .ite (.s 34)
      (.set 40 (.k (.tuple #[])) <|
      .nil)
      (.op (.isNil 1 false) [.s 38] 39 <|
      .set 40 (.s 39) <|
      .nil) <|
    .ite (.s 34)
      (.set 42 (.k (.tuple #[])) <|
      .nil)
      (.op (.eqB true) [.s 37, .s 40] 41 <|
      .set 42 (.s 41) <|
      .nil) <|
    .ite (.s 34)
      (.set 43 (.k (.bool true)) <|
      .nil)
      (.set 43 (.s 42) <|
      .nil) <|
    .ite (.s 43)
      (.set 44 (.k (.tuple #[])) <|
      .nil)
      (.set 44 (.s 29) <|
      .nil) <|
    .ite (.s 43)
      (.set 46 (.k (.tuple #[])) <|
      .nil)
      (.op .toStr [.s 44] 45 <|
      .set 46 (.s 45) <|
      .nil) <|
    .ite (.s 43)
      (.set 47 (.k (.tuple #[])) <|
      .nil)
      (.set 47 (.s 32) <|
      .nil) <|
    .ite (.s 43)
      (.set 49 (.k (.tuple #[])) <|
      .nil)
      (.op .toStr [.s 47] 48 <|
      .set 49 (.s 48) <|
      .nil) <|
    .ite (.s 43)
      (.set 51 (.k (.tuple #[])) <|
      .nil)
      (.op (.eqS true) [.s 46, .s 49] 50 <|
      .set 51 (.s 50) <|
      .nil) <|
    .ite (.s 43)
      (.set 52 (.k (.bool true)) <|
      .nil)
      (.set 52 (.s 51) <|
      .nil) <|
    .ite (.s 52)
      (.ret [.k (.bool false)])
      (.nil) <|
    .nil)

/-- Something, if it is not so. -/
def no (m n : Nat) (x : SV) (k : NP) : NP := .ite (.s m) (.set n tupE .nil) (.set n x .nil) k
def noOp (m n : Nat) (i : In) (xs : List SV) (k : NP) : NP := .ite (.s m) (.set (n + 1) tupE .nil) (.op i xs n (.set (n + 1) (.s n) .nil)) k

def p_zzT : FnP := ⟨.op (.box 1) [.s 0] 2 <| .chk 2 <| .op (.box 1) [.s 1] 3 <| .chk 3 <| .op .load [.q 2 0] 4 <| .op (.isNil 3 false) [.s 4] 5 <| .op .load [.q 3 0] 6 <| .op (.isNil 3 false) [.s 6] 7 <| .op (.eqB true) [.s 5, .s 7] 8 <|
  no 8 9 (.q 2 0) <| noOp 8 10 .load [.s 9] <| noOp 8 12 .lenM [.s 11] <| no 8 14 (.q 3 0) <| noOp 8 15 .load [.s 14] <| noOp 8 17 .lenM [.s 16] <| noOp 8 19 (.bin .neq) [.s 13, .s 18] <|
  .ite (.s 8) (.set 21 (.k (.bool true)) .nil) (.set 21 (.s 20) .nil) <|
  .ite (.s 21) (.ret [.k (.bool false)]) .nil <|
  .op .load [.q 2 0] 22 <| .op .rangeM [.s 22] 23 <| .set 24 (.k (.bool false)) <| .loop zzBody <| .ret [.k (.bool true)], [.direct]⟩

def zL : List Value := [.int .i32 0, .int .i32 0, .string ByteArray.empty, .int .i32 0, .map none]
def p_dL (fDef : FuncId) : FnP := ⟨.op (.alloc zL) [] 0 <| .chk 0 <| .op (.alloc zL) [] 1 <| .chk 1 <| .op (.call fDef) [.q 1 0] 2 <| .op (.loadN 5) [.q 1 0] 3 <| .op (.store 5) [.q 0 0, .s 3] 4 <| .ret [.q 0 0], [.cells 5]⟩

def dzL : List Value := [.int .i32 (-1), .int .i32 (-1), .string ByteArray.empty, .int .i32 0, .map none]
def dL : List Val := [.p (.i (-1)), .p (.i (-1)), .p (.by []), .p (.i 0), .t []]
def fsL (c : Bool) : Fs := .cons 0 (.prim .i32) <| .cons 1 (.prim .i32) <| .cons 2 (.prim (.str c)) <| .cons 3 (.prim .i32) <| .tags 4

section
variable {P : Program}

theorem stg_ok {m o : Nat} {ld eq : In} {k : NP} {Q : Post} {η : Nat → Value} {w : World} {p q : Nat} {b r : Bool} {vx vy : Value} (hm : 4 ≤ m) (h2 : η 2 = ptr p) (h3 : η 3 = ptr q) (hb : η m = .bool b)
    (hx : ∀ K : Value → World → Prop, K vx w → In.wp P ld [.pointer (some ⟨p, o, none⟩)] w K) (hy : ∀ K : Value → World → Prop, K vy w → In.wp P ld [.pointer (some ⟨q, o, none⟩)] w K)
    (he : ∀ K : Value → World → Prop, (∀ w', Keep [] w w' → K (.bool r) w') → In.wp P eq [vx, vy] w K)
    (hk : ∀ η' w', Keep [] w w' → η' (m + 9) = .bool (b && r) → η' 2 = ptr p → η' 3 = ptr q → k.wp P Q η' w') : (stg m o ld eq k).wp P Q η w := by
  unfold stg
  have n2 : ∀ j, (2 : Nat) = m + j ↔ False := fun j => by constructor <;> intro h <;> first | omega | exact h.elim
  have n3 : ∀ j, (3 : Nat) = m + j ↔ False := fun j => by constructor <;> intro h <;> first | omega | exact h.elim
  have m0 : ¬ m = 0 := by omega
  have am : ∀ j, m = m + (j + 1) ↔ False := fun j => by constructor <;> intro h <;> first | omega | exact h.elim
  cases b with
  | false =>
    refine np_ite false hb ?_
    simp only [Bool.false_eq_true, if_false]
    show NP.wp P _ _ _ w
    refine np_ite false (by simp [SV.val, upd, hb]) ?_
    simp only [Bool.false_eq_true, if_false]
    show NP.wp P _ _ _ w
    refine np_ite false (by simp [SV.val, upd, hb]) ?_
    simp only [Bool.false_eq_true, if_false]
    show NP.wp P _ _ _ w
    refine np_ite false (by simp [SV.val, upd, hb]) ?_
    simp only [Bool.false_eq_true, if_false]
    show NP.wp P _ _ _ w
    refine np_ite false (by simp [SV.val, upd, hb]) ?_
    simp only [Bool.false_eq_true, if_false]
    show NP.wp P _ _ _ w
    refine np_ite false (by simp [SV.val, upd, hb]) ?_
    simp only [Bool.false_eq_true, if_false]
    show NP.wp P k Q _ w
    refine hk _ w (Keep.refl _ _) (by simp [upd, SV.val]) ?_ ?_
    · simp [upd, n2, h2, m0]
    · simp [upd, n3, h3, m0]
  | true =>
    refine np_ite true hb ?_
    simp only [if_true]
    show NP.wp P _ _ _ w
    refine np_ite true (by simp [SV.val, upd, hb]) ?_
    simp only [if_true]
    refine np_op (vs := [.pointer (some ⟨p, o, none⟩)]) (by simp [SV.val, upd, h2, addr_at, m0]) (hx _ ?_)
    show NP.wp P _ _ _ w
    refine np_ite true (by simp [SV.val, upd, hb]) ?_
    simp only [if_true]
    show NP.wp P _ _ _ w
    refine np_ite true (by simp [SV.val, upd, hb]) ?_
    simp only [if_true]
    refine np_op (vs := [.pointer (some ⟨q, o, none⟩)]) (by simp [SV.val, upd, n3, h3, addr_at, m0]) (hy _ ?_)
    show NP.wp P _ _ _ w
    refine np_ite true (by simp [SV.val, upd, hb]) ?_
    simp only [if_true]
    refine np_op (vs := [vx, vy]) (by simp [SV.val, upd]) (he _ fun w' kw => ?_)
    show NP.wp P _ _ _ w'
    refine np_ite true (by simp [SV.val, upd, hb]) ?_
    simp only [if_true]
    show NP.wp P k Q _ w'
    refine hk _ w' kw (by simp [upd, SV.val]) ?_ ?_
    · simp [upd, n2, h2, m0]
    · simp [upd, n3, h3, m0]

theorem wp_box {n : Nat} {cs : List Value} {w : World} {K : Value → World → Prop} (hn : cs.length = n) (hk : ∀ b w', Row w' b cs → w.heap.size ≤ b → Keep [] w w' → K (ptr b) w') : In.wp P (.box n) [.agg cs.toArray] w K := by
  refine ⟨_, rfl, by simpa [Value.cells] using hn, fun e => ?_⟩
  obtain ⟨h1, h2⟩ := alloc_row (w := w) cs e
  exact hk _ _ h1 (Nat.le_refl _) h2

theorem zzT_ok (hn : Named P) {f : FuncId} (hf : fnP P f 2 = some p_zzT) {own ok : Nat → Prop} {w : World} {l : Tg} {v : Value} {K : Value → World → Prop} (hr : RepT own ok w l v) (h0 : l = [] → v = .map none) (hk : ∀ w', Keep [] w w' → K (.bool l.isEmpty) w') :
    In.wp P (.call f) [.agg ([v] : List Value).toArray, .agg ([.map none] : List Value).toArray] w K := by
  refine calls_of_np hn (vs := [.agg ([v] : List Value).toArray, .agg ([.map none] : List Value).toArray]) hf fun η hη => ?_
  have a0 : η 0 = .agg ([v] : List Value).toArray := hη 0 (by simp)
  have a1 : η 1 = .agg ([.map none] : List Value).toArray := hη 1 (by simp)
  refine np_op (vs := [.agg ([v] : List Value).toArray]) (by simp [SV.val, a0]) (wp_box rfl fun p w1 r1 hp k1 => ?_)
  refine ⟨⟨_, by simp only [upd]; rfl⟩, ?_⟩
  refine np_op (vs := [.agg ([.map none] : List Value).toArray]) (by simp [SV.val, upd, a1]) (wp_box rfl fun q w2 r2 hq k2 => ?_)
  refine ⟨⟨_, by simp only [upd]; rfl⟩, ?_⟩
  have kk := k1.then k2
  have r1' := r1.keep k2 (by simp)
  have hv : ∃ b, v = .map b ∧ b.isNone = l.isEmpty := by
    rcases hr with ⟨rfl, rfl⟩ | ⟨r, es, rfl, _⟩
    · exact ⟨none, rfl, rfl⟩
    · cases l with
      | nil => cases h0 rfl
      | cons x r => exact ⟨_, rfl, rfl⟩
  obtain ⟨b, rfl, hb⟩ := hv
  refine np_op (vs := [ptr p]) (by simp [SV.val, upd, Addr.add]) (wp_load r1' rfl ?_)
  refine np_op (vs := [.map b]) (by simp [SV.val, upd]) ⟨_, b.isNone, rfl, rfl, ?_⟩
  refine np_op (vs := [ptr q]) (by simp [SV.val, upd, Addr.add]) (wp_load r2 rfl ?_)
  refine np_op (vs := [.map none]) (by simp [SV.val, upd]) ⟨_, true, rfl, rfl, ?_⟩
  refine np_op (vs := [.bool b.isNone, .bool true]) (by simp [SV.val, upd]) ⟨_, _, rfl, ?_⟩
  unfold no noOp
  cases b with
  | some r =>
    have hl : l.isEmpty = false := by rw [← hb]; rfl
    refine np_ite true (by simp [SV.val, upd]) ?_
    simp only [if_true]
    show NP.wp P _ _ _ w2
    refine np_ite true (by simp [SV.val, upd]) ?_
    simp only [if_true]
    show NP.wp P _ _ _ w2
    refine np_ite true (by simp [SV.val, upd]) ?_
    simp only [if_true]
    show NP.wp P _ _ _ w2
    refine np_ite true (by simp [SV.val, upd]) ?_
    simp only [if_true]
    show NP.wp P _ _ _ w2
    refine np_ite true (by simp [SV.val, upd]) ?_
    simp only [if_true]
    show NP.wp P _ _ _ w2
    refine np_ite true (by simp [SV.val, upd]) ?_
    simp only [if_true]
    show NP.wp P _ _ _ w2
    refine np_ite true (by simp [SV.val, upd]) ?_
    simp only [if_true]
    show NP.wp P _ _ _ w2
    refine np_ite true (by simp [SV.val, upd]) ?_
    simp only [if_true]
    show NP.wp P _ _ _ w2
    refine np_ite true (by simp [SV.val, upd]) ?_
    simp only [if_true]
    show K (pack [_]) w2
    simp only [pack, SV.val]
    rw [← hl]; exact hk w2 kk
  | none =>
    have hl : l.isEmpty = true := by rw [← hb]; rfl
    refine np_ite false (by simp [SV.val, upd]) ?_
    simp only [Bool.false_eq_true, if_false]
    show NP.wp P _ _ _ w2
    refine np_ite false (by simp [SV.val, upd]) ?_
    simp only [Bool.false_eq_true, if_false]
    refine np_op (vs := [ptr p]) (by simp [SV.val, upd, Addr.add]) (wp_load r1' rfl ?_)
    show NP.wp P _ _ _ w2
    refine np_ite false (by simp [SV.val, upd]) ?_
    simp only [Bool.false_eq_true, if_false]
    refine np_op (vs := [.map none]) (by simp [SV.val, upd]) (.inl ⟨rfl, ?_⟩)
    show NP.wp P _ _ _ w2
    refine np_ite false (by simp [SV.val, upd]) ?_
    simp only [Bool.false_eq_true, if_false]
    show NP.wp P _ _ _ w2
    refine np_ite false (by simp [SV.val, upd]) ?_
    simp only [Bool.false_eq_true, if_false]
    refine np_op (vs := [ptr q]) (by simp [SV.val, upd, Addr.add]) (wp_load r2 rfl ?_)
    show NP.wp P _ _ _ w2
    refine np_ite false (by simp [SV.val, upd]) ?_
    simp only [Bool.false_eq_true, if_false]
    refine np_op (vs := [.map none]) (by simp [SV.val, upd]) (.inl ⟨rfl, ?_⟩)
    show NP.wp P _ _ _ w2
    refine np_ite false (by simp [SV.val, upd]) ?_
    simp only [Bool.false_eq_true, if_false]
    refine np_op (vs := [goInt 0, goInt 0]) (by simp [SV.val, upd]) ⟨.i64, 0, 0, .bool false, rfl, rfl, ?_⟩
    show NP.wp P _ _ _ w2
    refine np_ite false (by simp [SV.val, upd]) ?_
    simp only [Bool.false_eq_true, if_false]
    show NP.wp P _ _ _ w2
    refine np_ite false (by simp [SV.val, upd]) ?_
    simp only [Bool.false_eq_true, if_false]
    show NP.wp P _ _ _ w2
    refine np_op (vs := [ptr p]) (by simp [SV.val, upd, Addr.add]) (wp_load r1' rfl ?_)
    refine np_op (vs := [.map none]) (by simp [SV.val, upd]) (.inl ⟨rfl, ?_⟩)
    have kit : Keep [] w2 (w2.alloc (.mapIter none 0 #[] 0)) := ⟨rfl, rfl, rfl, by simp, fun q hq _ => RowKit.Below.heap_alloc w2 _ q hq⟩
    have hit : (w2.alloc (.mapIter none 0 #[] 0)).heap[w2.heap.size]? = some (.mapIter none 0 #[] 0) := heap_alloc_new w2 _
    show NP.wp P _ _ _ _
    refine ⟨1, ?_⟩
    show NP.wp P zzBody _ _ _
    unfold zzBody
    refine np_op (vs := [.pointer (some ⟨w2.heap.size, 0, none⟩)]) (by simp [SV.val, upd]) (.inl ⟨_, rfl, hit, ?_⟩)
    refine np_op (vs := [.tuple #[.bool false]]) (by simp [SV.val, upd]) ⟨_, .bool false, rfl, rfl, ?_⟩
    refine np_ite false (by simp [SV.val, upd]) ?_
    simp only [Bool.false_eq_true, if_false]
    show K (pack [_]) _
    simp only [pack, SV.val]
    rw [← hl]; exact hk _ (kk.then kit)

theorem rep_i32 {ok : Nat → Prop} {w : World} {x : Val} {cs : List Value} {o : Nat} (h : RepS ok w (.prim .i32) x (cs.drop o)) : ∃ a : Int, x = .p (.i a) ∧ cs[o]? = some (.int .i32 a) := by
  cases x with
  | p pv =>
    simp only [RepS] at h
    obtain ⟨u, h1, h2⟩ := h
    cases pv with
    | i a =>
      simp only [RepP] at h2
      subst h2
      refine ⟨a, rfl, ?_⟩
      have := congrArg (fun l => l[0]?) h1
      simpa [Value.cells, width, List.getElem?_take, List.getElem?_drop] using this.symm
    | _ => simp [RepP] at h2
  | _ => simp [RepS] at h

theorem rep_str {ok : Nat → Prop} {w : World} {x : Val} {cs : List Value} {o : Nat} {c : Bool} (h : RepS ok w (.prim (.str c)) x (cs.drop o)) : ∃ s : Bs, x = .p (.by s) ∧ cs[o]? = some (.string ⟨s.toArray⟩) := by
  cases x with
  | p pv =>
    simp only [RepS] at h
    obtain ⟨u, h1, h2⟩ := h
    cases pv with
    | «by» s =>
      simp only [RepP] at h2
      subst h2
      refine ⟨s, rfl, ?_⟩
      have := congrArg (fun l => l[0]?) h1
      simpa [Value.cells, width, List.getElem?_take, List.getElem?_drop] using this.symm
    | _ => simp [RepP] at h2
  | _ => simp [RepS] at h

theorem repL {ok : Nat → Prop} {w : World} {c : Bool} {vs : List Val} {cs : List Value} (h : RepF ok w (fsL c) vs cs) (hl : cs.length = 5) :
    ∃ (a b : Int) (s : Bs) (d : Int) (l : Tg) (v : Value), vs = [.p (.i a), .p (.i b), .p (.by s), .p (.i d), .t l] ∧ cs = [.int .i32 a, .int .i32 b, .string ⟨s.toArray⟩, .int .i32 d, v] ∧ RepT ok ok w l v ∧ (l = [] → v = .map none) := by
  unfold fsL at h
  match vs, h with
  | v0 :: v1 :: v2 :: v3 :: [.t l], h =>
    simp only [RepF] at h
    obtain ⟨h0, h1, h2, h3, v, h4, h5, h6⟩ := h
    obtain ⟨a, rfl, c0⟩ := rep_i32 h0
    obtain ⟨b, rfl, c1⟩ := rep_i32 h1
    obtain ⟨s, rfl, c2⟩ := rep_str h2
    obtain ⟨d, rfl, c3⟩ := rep_i32 h3
    refine ⟨a, b, s, d, l, v, rfl, ?_, h5, h6⟩
    apply List.ext_getElem?
    intro i
    match i with
    | 0 => exact c0
    | 1 => exact c1
    | 2 => exact c2
    | 3 => exact c3
    | 4 => exact h4
    | i + 5 => rw [List.getElem?_eq_none (by omega), List.getElem?_eq_none (by simp)]
  | [], h => simp [RepF] at h
  | [_], h => simp [RepF] at h
  | [_, _], h => simp [RepF] at h
  | [_, _, _], h => simp [RepF] at h
  | [_, _, _, _], h => simp [RepF] at h
  | [_, _, _, _, .p _], h => simp [RepF] at h
  | [_, _, _, _, .l _], h => simp [RepF] at h
  | [_, _, _, _, .n _], h => simp [RepF] at h
  | _ :: _ :: _ :: _ :: _ :: _ :: _, h => simp [RepF] at h

theorem zzL_ok (hn : Named P) {fT f : FuncId} (hT : fnP P fT 2 = some p_zzT) (hf : fnP P f 2 = some (p_zzL fT)) {ok : Nat → Prop} {w : World} {c : Bool} {vs : List Val} {cs : List Value} {K : Value → World → Prop} (hr : RepF ok w (fsL c) vs cs) (hl : cs.length = 5) (hk : ∀ w', Keep [] w w' → K (.bool (eqL vs dL)) w') :
    In.wp P (.call f) [.agg cs.toArray, .agg dzL.toArray] w K := by
  obtain ⟨a, b, s, d, l, v, rfl, rfl, hrt, h0⟩ := repL hr hl
  refine calls_of_np hn (vs := [.agg ([.int .i32 a, .int .i32 b, .string ⟨s.toArray⟩, .int .i32 d, v] : List Value).toArray, .agg dzL.toArray]) hf fun η hη => ?_
  have a0 : η 0 = .agg ([.int .i32 a, .int .i32 b, .string ⟨s.toArray⟩, .int .i32 d, v] : List Value).toArray := hη 0 (by simp)
  have a1 : η 1 = .agg dzL.toArray := hη 1 (by simp)
  refine np_op (vs := [.agg ([.int .i32 a, .int .i32 b, .string ⟨s.toArray⟩, .int .i32 d, v] : List Value).toArray]) (by simp [SV.val, a0]) (wp_box rfl fun p w1 r1 hp k1 => ?_)
  refine ⟨⟨_, by simp only [upd]; rfl⟩, ?_⟩
  refine np_op (vs := [.agg dzL.toArray]) (by simp [SV.val, upd, a1]) (wp_box rfl fun q w2 r2 hq k2 => ?_)
  refine ⟨⟨_, by simp only [upd]; rfl⟩, ?_⟩
  have kk := k1.then k2
  have r1' := r1.keep k2 (by simp)
  refine np_op (vs := [ptr p]) (by simp [SV.val, upd, Addr.add]) (wp_load r1' rfl ?_)
  refine np_op (vs := [ptr q]) (by simp [SV.val, upd, Addr.add]) (wp_load r2 rfl ?_)
  refine np_op (vs := [.int .i32 a, .int .i32 (-1)]) (by simp [SV.val, upd]) ⟨.i32, a, -1, .bool (a == -1), rfl, rfl, ?_⟩
  have ld : ∀ {w' : World} {q o : Nat} {ds : List Value} {u : Value}, Row w' q ds → ds[o]? = some u → ∀ K : Value → World → Prop, K u w' → In.wp P .load [.pointer (some ⟨q, o, none⟩)] w' K := fun hr hu K hK => wp_load hr hu hK
  refine stg_ok (p := p) (q := q) (b := a == -1) (r := b == -1) (vx := .int .i32 b) (vy := .int .i32 (-1)) (by omega) (by simp [upd]) (by simp [upd]) (by simp [upd]) (ld r1' rfl) (ld r2 rfl) (fun K hK => ⟨.i32, b, -1, _, rfl, rfl, hK _ (Keep.refl _ _)⟩) fun η1 w3 k3 e1 p1 q1 => ?_
  have r1a := r1'.keep k3 (by simp)
  have r2a := r2.keep k3 (by simp)
  refine stg_ok (p := p) (q := q) (r := ((⟨s.toArray⟩ : ByteArray).toList == ByteArray.empty.toList) != false) (vx := .string ⟨s.toArray⟩) (vy := .string ByteArray.empty) (by omega) p1 q1 e1 (ld r1a rfl) (ld r2a rfl) (fun K hK => ⟨_, _, rfl, hK _ (Keep.refl _ _)⟩) fun η2 w4 k4 e2 p2 q2 => ?_
  have r1b := r1a.keep k4 (by simp)
  have r2b := r2a.keep k4 (by simp)
  refine stg_ok (p := p) (q := q) (r := d == 0) (vx := .int .i32 d) (vy := .int .i32 0) (by omega) p2 q2 e2 (ld r1b rfl) (ld r2b rfl) (fun K hK => ⟨.i32, d, 0, _, rfl, rfl, hK _ (Keep.refl _ _)⟩) fun η3 w5 k5 e3 p3 q3 => ?_
  have r1c := r1b.keep k5 (by simp)
  have r2c := r2b.keep k5 (by simp)
  have k25 : Keep [] w w5 := ((kk.then k3).then k4).then k5
  have hrt5 : RepT ok ok w5 l v := by
    rcases hrt with hh | ⟨r, es, x1, x2, x3⟩
    · exact .inl hh
    · exact .inr ⟨r, es, x1, x2, x3.keep k25 (by simp) (fun x hx => by cases hx)⟩
  refine stg_ok (p := p) (q := q) (r := l.isEmpty) (vx := .agg ([v] : List Value).toArray) (vy := .agg ([.map none] : List Value).toArray) (by omega) p3 q3 e3 (fun K hK => wp_loadN r1c (by simp) hK) (fun K hK => wp_loadN r2c (by simp [dzL]) hK)
    (fun K hK => zzT_ok hn hT hrt5 h0 hK) fun η4 w6 k6 e4 p4 q4 => ?_
  show K (pack [_]) w6
  simp only [pack, SV.val]
  rw [e4]
  have hs : (((⟨s.toArray⟩ : ByteArray).toList == ByteArray.empty.toList) != false) = (s == []) := by
    have h1 : (⟨s.toArray⟩ : ByteArray).toList = s := by rw [Lib.toList_data]
    have h2 : ByteArray.empty.toList = [] := by rw [Lib.toList_data]; rfl
    rw [h1, h2]; simp
  have hf : ((((a == -1 && b == -1) && (((⟨s.toArray⟩ : ByteArray).toList == ByteArray.empty.toList) != false)) && d == 0) && l.isEmpty) = eqL [.p (.i a), .p (.i b), .p (.by s), .p (.i d), .t l] dL := by
    rw [hs]
    simp only [eqL, dL, eqA, List.isEmpty_nil, Bool.and_true, Bool.and_assoc]
  rw [hf]
  exact hk w6 (k25.then k6)

theorem dL_ok (hn : Named P) {fDef f : FuncId} (hd : DefOk P fDef [(0, .int .i32 (-1)), (1, .int .i32 (-1))]) (hf : fnP P f 0 = some (p_dL fDef)) {w : World} {K : Value → World → Prop} (hk : ∀ w', Keep [] w w' → K (.agg dzL.toArray) w') : In.wp P (.call f) [] w K := by
  refine calls_of_np hn (vs := []) hf fun η hη => ?_
  refine np_op (vs := []) rfl (wp_alloc fun p w1 r1 hp k1 => ?_)
  refine ⟨⟨_, by simp only [upd]; rfl⟩, ?_⟩
  refine np_op (vs := []) rfl (wp_alloc fun q w2 r2 hq k2 => ?_)
  refine ⟨⟨_, by simp only [upd]; rfl⟩, ?_⟩
  have hpq : p ≠ q := by have := r1.lt; omega
  have r1' := r1.keep k2 (by simp)
  refine np_op (vs := [ptr q]) (by simp [SV.val, upd, Addr.add]) (hd w2 q 0 zL _ r2 (by simp [zL]) fun w3 r3 k3 => ?_)
  have r1a := r1'.keep k3 (by simpa using hpq)
  have e3 : setD 0 [(0, Value.int .i32 (-1)), (1, .int .i32 (-1))] zL = dzL := rfl
  rw [e3] at r3
  refine np_op (vs := [ptr q]) (by simp [SV.val, upd, Addr.add]) (wp_loadN r3 (by simp [dzL]) ?_)
  have e4 : (dzL.drop 0).take 5 = dzL := rfl
  rw [e4]
  refine np_op (vs := [ptr p, .agg dzL.toArray]) (by simp [SV.val, upd, Addr.add]) (wp_store r1a (n := 5) ⟨rfl, by simp [Value.cells, dzL, Value.oneCell']⟩ (by simp [zL]) fun w4 r4 k4 => ?_)
  have e5 : put zL 0 (Value.agg dzL.toArray).cells.toList = dzL := rfl
  rw [e5] at r4
  have kk : Keep [] w w4 := ((k1.then k2).trans k3 fun x hx hlt => by rw [List.mem_singleton.1 hx] at hlt; have := k1.size; omega).trans k4 fun x hx hlt => by rw [List.mem_singleton.1 hx] at hlt; omega
  refine ⟨p, 0, dzL, by simp [SV.val, upd, Addr.add], ?_, rfl, ?_⟩
  · show w4.rangeAt p 0 ((dzL.drop 0).take 5)
    exact r4.range 0 5
  · show K (pack [_]) w4
    exact hk w4 kk

/-- A leader. -/
theorem zzOk_L (hn : Named P) {fT f1 f2 fDef : FuncId} (hT : fnP P fT 2 = some p_zzT) (h2 : fnP P f2 2 = some (p_zzL fT)) (hd : DefOk P fDef [(0, .int .i32 (-1)), (1, .int .i32 (-1))]) (h1 : fnP P f1 0 = some (p_dL fDef)) (c : Bool) : ZzOk P f1 f2 (.str (fsL c)) dzL dL := by
  refine ⟨fun w K hK => dL_ok hn hd h1 hK, fun ok w => ?_, rfl, fun ok w cs vs K hr hl hK => ?_⟩
  · simp only [RepS, fsL, dL, dzL, RepF]
    refine ⟨⟨_, rfl, rfl⟩, ⟨_, rfl, rfl⟩, ⟨_, rfl, rfl⟩, ⟨_, rfl, rfl⟩, .map none, rfl, .inl ⟨rfl, rfl⟩, fun _ => rfl⟩
  · simp only [RepS] at hr
    exact zzL_ok hn hT h2 hr hl hK

end
end Go.Mr
