/- Texts: a text without some marks, without blanks at its ends, its letters small; where an octet lies; an octet struck out. -/
import Derived.Test.YtajakjfmeoclaaaDoorKa
import Derived.Lib.Space
import Derived.Lib.Case
import Derived.Lib.Strings
import Derived.KernelRfl
set_option linter.unusedSimpArgs false
set_option linter.unusedVariables false
namespace Go.Nm
open Go.Lx Go.Nx Go.Km Go.Mx Go.Kb

set_option linter.unusedSimpArgs false
set_option linter.unusedVariables false

/-! Plain. -/
def mark (b : UInt8) : Bool := b == 46 || b == 95 || b == 45
def norm (l : Bs) : Bs := Lib.trimSpace ((l.map Lib.lowerB).filter fun b => !mark b)

/-- As the package has it. -/
def norm' (l : Bs) : Bs := Lib.toLowerA (Lib.trimSpace (((l.filter (· != 46)).filter (· != 95)).filter (· != 45)))

theorem all256 {p : UInt8 → Bool} (h : (List.range 256).all (fun n => p (UInt8.ofNat n)) = true) (b : UInt8) : p b = true := by
  have := (List.all_eq_true.1 h) b.toNat (List.mem_range.2 b.toNat_lt)
  simpa using this

theorem mark_lower (b : UInt8) : mark (Lib.lowerB b) = mark b := by
  have := all256 (p := fun b => mark (Lib.lowerB b) == mark b) (by kernel_rfl) b
  simpa using this

theorem sp_lower (b : UInt8) : Lib.isSp (Lib.lowerB b) = Lib.isSp b := by
  have := all256 (p := fun b => Lib.isSp (Lib.lowerB b) == Lib.isSp b) (by kernel_rfl) b
  simpa using this

theorem lower_low (b : UInt8) (h : b.toNat < 128) : (Lib.lowerB b).toNat < 128 := by
  have := all256 (p := fun b => decide (b.toNat < 128 → (Lib.lowerB b).toNat < 128)) (by kernel_rfl) b
  exact (of_decide_eq_true this) h

theorem drop_map (l : Bs) : (l.map Lib.lowerB).dropWhile Lib.isSp = (l.dropWhile Lib.isSp).map Lib.lowerB := by
  induction l with
  | nil => rfl
  | cons b r ih =>
    simp only [List.map_cons, List.dropWhile_cons, sp_lower]
    split
    · exact ih
    · simp

theorem trim_lower (l : Bs) : Lib.trimSpace (l.map Lib.lowerB) = (Lib.trimSpace l).map Lib.lowerB := by
  unfold Lib.trimSpace
  rw [drop_map, ← List.map_reverse, drop_map, List.map_reverse]

theorem filt (l : Bs) : ((l.filter (· != 46)).filter (· != 95)).filter (· != 45) = l.filter fun b => !mark b := by
  rw [List.filter_filter, List.filter_filter]
  congr 1
  funext b
  unfold mark
  cases h1 : b == 46 <;> cases h2 : b == 95 <;> cases h3 : b == 45 <;> simp [bne, h1, h2, h3]

theorem filt_lower (l : Bs) : (l.map Lib.lowerB).filter (fun b => !mark b) = (l.filter fun b => !mark b).map Lib.lowerB := by
  induction l with
  | nil => rfl
  | cons b r ih =>
    simp only [List.map_cons, List.filter_cons, mark_lower]
    split
    · simp [ih]
    · exact ih

theorem norm_eq (l : Bs) : norm' l = norm l := by
  unfold norm norm' Lib.toLowerA
  rw [filt, filt_lower, trim_lower]

/-- Where an octet lies first. -/
def at1 (c : UInt8) : Bs → Option Nat
  | [] => none
  | b :: r => if b = c then some 0 else (at1 c r).map (· + 1)

theorem at1_some {c : UInt8} : ∀ {l : Bs} {i : Nat}, at1 c l = some i → i < l.length ∧ (l.take i).filter (· != c) = l.take i ∧ l[i]? = some c := by
  intro l
  induction l with
  | nil => intro i h; cases h
  | cons b r ih =>
    intro i h
    simp only [at1] at h
    split at h
    · rename_i hb; cases h; subst hb; simp
    · rename_i hb
      simp only [Option.map_eq_some_iff] at h
      obtain ⟨j, hj, rfl⟩ := h
      obtain ⟨h1, h2, h3⟩ := ih hj
      refine ⟨by simp; omega, ?_, by simpa using h3⟩
      have : (b != c) = true := by simpa using hb
      simp only [List.take_succ_cons, List.filter_cons, this, if_true, h2]

theorem at1_none {c : UInt8} : ∀ {l : Bs}, at1 c l = none → l.filter (· != c) = l := by
  intro l
  induction l with
  | nil => intro _; rfl
  | cons b r ih =>
    intro h
    simp only [at1] at h
    split at h
    · cases h
    · rename_i hb
      simp only [Option.map_eq_none_iff] at h
      have : (b != c) = true := by simpa using hb
      simp only [List.filter_cons, this, if_true, ih h]

theorem filter_at {c : UInt8} {l : Bs} {i : Nat} (h : at1 c l = some i) : l.filter (· != c) = l.take i ++ (l.drop (i + 1)).filter (· != c) := by
  obtain ⟨h1, h2, h3⟩ := at1_some h
  have hi : l[i] = c := by
    have := List.getElem?_eq_getElem h1
    rw [this] at h3; cases h3; rfl
  conv => lhs; rw [← List.take_append_drop i l, List.filter_append, h2, List.drop_eq_getElem_cons h1]
  rw [List.filter_cons, hi]
  simp

/-! In the model. -/
abbrev PostN := Out → (Nat → Value) → World → Prop
abbrev i64 (n : Int) : Value := .int .i64 n
/-- A text. -/
abbrev S (l : Bs) : Value := .string ⟨l.toArray⟩

section
variable {P : Program}

theorem np_T {c : SV} {a b k : NP} {Q : PostN} {η : Nat → Value} {w : World} (hc : c.val η = .bool true) (h : a.wp P (fun o η w => match o with | .nrm => k.wp P Q η w | o => Q o η w) η w) : (NP.ite c a b k).wp P Q η w :=
  ⟨true, hc, fun _ => h, fun h => by cases h⟩
theorem np_F {c : SV} {a b k : NP} {Q : PostN} {η : Nat → Value} {w : World} (hc : c.val η = .bool false) (h : b.wp P (fun o η w => match o with | .nrm => k.wp P Q η w | o => Q o η w) η w) : (NP.ite c a b k).wp P Q η w :=
  ⟨false, hc, fun h => (by cases h), fun _ => h⟩

theorem np_sel {c : SV} {n : Nat} {x y : SV} {k : NP} {Q : PostN} {η : Nat → Value} {w : World} (t : Bool) (hc : c.val η = .bool t) (h : k.wp P Q (upd η n (if t then x.val η else y.val η)) w) : (NP.ite c (.set n x .nil) (.set n y .nil) k).wp P Q η w := by
  cases t with
  | true => exact np_T hc h
  | false => exact np_F hc h

/-- A loop: so many rounds at most, a word that holds at each round's beginning. -/
theorem np_loop {b k : NP} {Q : PostN} {η : Nat → Value} {w : World} (I : Nat → (Nat → Value) → World → Prop) (n : Nat) (h0 : I n η w)
    (hr : ∀ m η w, I m η w → b.wp P (fun o η w => match o with | .nrm => (∃ j, j < m ∧ I j η w) | .ext => k.wp P Q η w | o => Q o η w) η w) : (NP.loop b k).wp P Q η w := by
  refine ⟨n + 1, ?_⟩
  have key : ∀ n m η w, m ≤ n → I m η w → roundsP (b.wp P) (fun o η w => match o with | .ext => k.wp P Q η w | o => Q o η w) (n + 1) η w := by
    intro n
    induction n with
    | zero =>
      intro m η w hm hi
      have hm0 : m = 0 := by omega
      subst hm0
      refine NP.wp_mono _ _ _ _ _ ?_ (hr 0 η w hi)
      intro o η w ho
      cases o with
      | nrm => obtain ⟨j, hj, _⟩ := ho; omega
      | ext => exact ho
      | ret vs => exact ho
    | succ n ih =>
      intro m η w hm hi
      refine NP.wp_mono _ _ _ _ _ ?_ (hr m η w hi)
      intro o η w ho
      cases o with
      | nrm => obtain ⟨j, hj, hi'⟩ := ho; exact ih j η w (by omega) hi'
      | ext => exact ho
      | ret vs => exact ho
  exact key n n η w (Nat.le_refl _) h0

theorem extract_S (l : Bs) (a b : Nat) : (⟨l.toArray⟩ : ByteArray).extract a b = ⟨((l.take b).drop a).toArray⟩ := by
  apply ByteArray.ext
  rw [ByteArray.data_extract]
  apply Array.ext'
  simp [List.extract_eq_take_drop, List.drop_take]

theorem size_S (l : Bs) : (⟨l.toArray⟩ : ByteArray).size = l.length := rfl

theorem toList_S (l : Bs) : (⟨l.toArray⟩ : ByteArray).toList = l := by rw [Lib.toList_data]

theorem wp_eqS {l m : Bs} {neq : Bool} {w : World} {K : Value → World → Prop} (hk : K (.bool ((l == m) != neq)) w) : In.wp P (.eqS neq) [S l, S m] w K :=
  ⟨_, _, rfl, by rw [toList_S, toList_S]; exact hk⟩

theorem wp_lenS {l : Bs} {w : World} {K : Value → World → Prop} (hk : K (i64 l.length) w) : In.wp P .lenS [S l] w K := ⟨_, rfl, hk⟩

theorem wp_slS {l : Bs} {a b : Nat} {w : World} {K : Value → World → Prop} (h1 : a ≤ b) (h2 : b ≤ l.length) (hk : K (S ((l.take b).drop a)) w) : In.wp P (.slS true true) [S l, i64 a, i64 b] w K :=
  ⟨_, _, rfl, .i64, a, _, rfl, .i64, b, _, rfl, rfl, h1, h2, by rw [extract_S]; exact hk⟩

theorem wp_slT {l : Bs} {b : Nat} {w : World} {K : Value → World → Prop} (h2 : b ≤ l.length) (hk : K (S (l.take b)) w) : In.wp P (.slS false true) [S l, i64 b] w K :=
  ⟨_, _, rfl, .i64, b, _, rfl, rfl, Nat.zero_le _, h2, by rw [extract_S]; simpa using hk⟩

theorem wp_slD {l : Bs} {a : Nat} {w : World} {K : Value → World → Prop} (h2 : a ≤ l.length) (hk : K (S (l.drop a)) w) : In.wp P (.slS true false) [S l, i64 a] w K :=
  ⟨_, _, rfl, .i64, a, _, rfl, rfl, h2, Nat.le_refl _, by rw [extract_S, size_S, List.take_length]; exact hk⟩

theorem wrap64 {n : Int} (h0 : -9223372036854775808 ≤ n) (h1 : n < 9223372036854775808) : IntKind.i64.wrap n = n := by
  simp only [IntKind.wrap, IntKind.bits, IntKind.signed]
  simp
  omega

theorem wp_add {x y : Int} {w : World} {K : Value → World → Prop} (h0 : -9223372036854775808 ≤ x + y) (h1 : x + y < 9223372036854775808) (hk : K (i64 (x + y)) w) : In.wp P (.bin .add) [i64 x, i64 y] w K :=
  ⟨.i64, x, y, _, rfl, rfl, by rw [wrap64 h0 h1]; exact hk⟩
end

/-! The programs. -/
structure NI where
  e8 : TypeId
  index : FuncId
  replace : FuncId
  trim : FuncId
  lower : FuncId
  strnorm : FuncId
  blank : FuncId
  normal : FuncId

def p_index : FnP := ⟨.set 2 (.k (.int .i64 0)) <|
  .set 3 (.k (.int .i64 0)) <|
  .loop
    (.op .lenS [.s 1] 4 <|
    .op (.bin .add) [.s 3, .s 4] 5 <|
    .op .lenS [.s 0] 6 <|
    .op (.bin .leq) [.s 5, .s 6] 7 <|
    .ite (.s 7)
      (.nil)
      (.exit) <|
    .op .lenS [.s 1] 8 <|
    .op (.bin .add) [.s 3, .s 8] 9 <|
    .op (.slS true true) [.s 0, .s 3, .s 9] 10 <|
    .op (.eqS false) [.s 10, .s 1] 11 <|
    .ite (.s 11)
      (.ret [.s 3])
      (.nil) <|
    .op (.bin .add) [.s 3, .k (.int .i64 1)] 12 <|
    .set 13 (.s 12) <|
    .set 3 (.s 13) <|
    .nil) <|
  .ret [.k (.int .i64 (-1))], [.direct]⟩

def p_replace (I : NI) : FnP := ⟨.op .lenS [.s 1] 3 <|
  .op (.bin .eql) [.s 3, .k (.int .i64 0)] 4 <|
  .ite (.s 4)
    (.op (.appS I.e8) [.k (.slice none 0 0), .s 2] 5 <|
    .op .bad [] 6 <|
    .set 7 (.s 5) <|
    .set 8 (.k (.int .i64 0)) <|
    .loop
      (.op .bad [] 9 <|
      .op (.ex 0) [.s 9] 10 <|
      .ite (.s 10)
        (.nil)
        (.exit) <|
      .op (.ex 1) [.s 9] 11 <|
      .op (.bin .gtr) [.s 11, .k (.int .i64 0)] 12 <|
      .ite (.s 12)
        (.op (.slS true true) [.s 0, .s 8, .s 11] 13 <|
        .op (.appS I.e8) [.s 7, .s 13] 14 <|
        .op (.appS I.e8) [.s 14, .s 2] 15 <|
        .set 16 (.s 15) <|
        .set 17 (.s 11) <|
        .nil)
        (.set 16 (.s 7) <|
        .set 17 (.s 8) <|
        .nil) <|
      .set 18 (.s 16) <|
      .set 19 (.s 17) <|
      .set 7 (.s 18) <|
      .set 8 (.s 19) <|
      .nil) <|
    .op .lenS [.s 0] 20 <|
    .op (.bin .gtr) [.s 20, .k (.int .i64 0)] 21 <|
    .ite (.s 21)
      (.op (.slS true false) [.s 0, .s 8] 22 <|
      .op (.appS I.e8) [.s 7, .s 22] 23 <|
      .op (.appS I.e8) [.s 23, .s 2] 24 <|
      .set 25 (.s 24) <|
      .nil)
      (.set 25 (.s 7) <|
      .nil) <|
    .op .toStr [.s 25] 26 <|
    .ret [.s 26])
    (.nil) <|
  .set 27 (.k (.string ByteArray.empty)) <|
  .set 28 (.k (.slice none 0 0)) <|
  .set 29 (.s 0) <|
  .loop
    (.op (.call I.index) [.s 29, .s 1] 30 <|
    .op (.bin .lss) [.s 30, .k (.int .i64 0)] 31 <|
    .ite (.s 31)
      (.op (.appS I.e8) [.s 28, .s 29] 32 <|
      .op .toStr [.s 32] 33 <|
      .ret [.s 33])
      (.nil) <|
    .op (.slS false true) [.s 29, .s 30] 34 <|
    .op (.appS I.e8) [.s 28, .s 34] 35 <|
    .op (.appS I.e8) [.s 35, .s 2] 36 <|
    .op .lenS [.s 1] 37 <|
    .op (.bin .add) [.s 30, .s 37] 38 <|
    .op (.slS true false) [.s 29, .s 38] 39 <|
    .set 40 (.s 36) <|
    .set 41 (.s 39) <|
    .set 28 (.s 40) <|
    .set 29 (.s 41) <|
    .nil) <|
  .nil, [.direct]⟩

/-- Where it lies, or -1. -/
def idx (c : UInt8) (l : Bs) : Int := match at1 c l with
  | some i => i
  | none => -1

section
variable {P : Program}

theorem at1_drop {c : UInt8} : ∀ (l : Bs) (i : Nat), i ≤ l.length → (l.take i).filter (· != c) = l.take i → at1 c l = (at1 c (l.drop i)).map (· + i) := by
  intro l i
  induction i generalizing l with
  | zero => intro _ _; simp
  | succ i ih =>
    intro h1 h2
    cases l with
    | nil => simp at h1
    | cons b r =>
      simp only [List.take_succ_cons, List.filter_cons] at h2
      split at h2
      · rename_i hb
        have hb' : b ≠ c := by simpa using hb
        simp only [List.cons.injEq, true_and] at h2
        simp only [at1, hb', if_false, List.drop_succ_cons]
        rw [ih r (by simpa using h1) h2]
        cases at1 c (r.drop i) <;> simp; omega
      · rename_i hb
        have := congrArg List.length h2
        have h3 := List.length_filter_le (fun x => x != c) (r.take i)
        simp only [List.length_cons] at this
        omega

theorem index_ok (hn : Named P) {f : FuncId} (hf : fnP P f 2 = some p_index) {l : Bs} {c : UInt8} (hl : l.length < 4611686018427387904) {w : World} {K : Value → World → Prop} (hk : K (i64 (idx c l)) w) :
    In.wp P (.call f) [S l, S [c]] w K := by
  refine calls_of_np hn (vs := [S l, S [c]]) hf fun η hη => ?_
  have h0 : η 0 = S l := hη 0 (by simp)
  have h1 : η 1 = S [c] := hη 1 (by simp)
  show NP.wp P _ _ (upd (upd η 2 _) 3 _) w
  refine np_loop (fun m η w' => w' = w ∧ η 0 = S l ∧ η 1 = S [c] ∧ ∃ i : Nat, η 3 = i64 i ∧ i ≤ l.length ∧ m = l.length - i ∧ (l.take i).filter (· != c) = l.take i) (l.length) ⟨rfl, by simp [upd, h0], by simp [upd, h1], 0, by simp [upd, SV.val], by simp, by simp, by simp⟩ ?_
  rintro m η w ⟨rfl, h0, h1, i, h3, hi, hm, hfil⟩
  refine np_op (vs := [S [c]]) (by simp [SV.val, h1]) (wp_lenS ?_)
  refine np_op (vs := [i64 i, i64 1]) (by simp [SV.val, upd, h3]) (wp_add (by omega) (by omega) ?_)
  refine np_op (vs := [S l]) (by simp [SV.val, upd, h0]) (wp_lenS ?_)
  refine np_op (vs := [i64 (i + 1 : Int), i64 l.length]) (by simp [SV.val, upd]) ⟨.i64, _, _, .bool (decide ((i : Int) + 1 ≤ l.length)), rfl, rfl, ?_⟩
  by_cases hlt : i < l.length
  · refine np_T (by simp [SV.val, upd]; omega) ?_
    refine np_op (vs := [S [c]]) (by simp [SV.val, upd, h1]) (wp_lenS ?_)
    refine np_op (vs := [i64 i, i64 1]) (by simp [SV.val, upd, h3]) (wp_add (by omega) (by omega) ?_)
    refine np_op (vs := [S l, i64 i, i64 ((i + 1 : Nat) : Int)]) (by simp [SV.val, upd, h0, h3]) (wp_slS (by omega) (by omega) ?_)
    have hone : (l.take (i + 1)).drop i = [l[i]] := by
      rw [List.take_succ_eq_append_getElem hlt, List.drop_append_of_le_length (by simp; omega), List.drop_of_length_le (by simp; omega), List.nil_append]
    rw [hone]
    refine np_op (vs := [S [l[i]], S [c]]) (by simp [SV.val, upd, h1]) (wp_eqS ?_)
    by_cases he : l[i] = c
    · refine np_T (by simp [SV.val, upd, he]) ?_
      have hidx : idx c l = i := by
        unfold idx
        rw [at1_drop l i hi hfil, List.drop_eq_getElem_cons hlt]
        simp [at1, he]
      show K (pack _) w
      simpa [pack, SV.val, upd, h3, ← hidx] using hk
    · refine np_F (by simp [SV.val, upd, he]) ?_
      refine np_op (vs := [i64 i, i64 1]) (by simp [SV.val, upd, h3]) (wp_add (by omega) (by omega) ?_)
      show ∃ j, j < m ∧ _
      refine ⟨l.length - (i + 1), by omega, rfl, by simp [upd, h0], by simp [upd, h1], i + 1, by simp [upd, SV.val], by omega, rfl, ?_⟩
      rw [List.take_succ_eq_append_getElem hlt, List.filter_append, hfil]
      simp [he]
  · refine np_F (by simp [SV.val, upd]; omega) ?_
    have hil : i = l.length := by omega
    have hidx : idx c l = -1 := by
      unfold idx
      rw [at1_drop l i hi hfil, hil]
      simp [at1]
    show K (pack _) w
    simpa [pack, SV.val, ← hidx] using hk

theorem replace_ok (hn : Named P) {I : NI} (hi : fnP P I.index 2 = some p_index) {f : FuncId} (hf : fnP P f 3 = some (p_replace I)) {l : Bs} {c : UInt8} (hl : l.length < 1048576) {w : World} {K : Value → World → Prop} (hk : ∀ w', Keep [] w w' → K (S (l.filter (· != c))) w') :
    In.wp P (.call f) [S l, S [c], S []] w K := by
  refine calls_of_np hn (vs := [S l, S [c], S []]) hf fun η hη => ?_
  have h0 : η 0 = S l := hη 0 (by simp)
  have h1 : η 1 = S [c] := hη 1 (by simp)
  have h2 : η 2 = S [] := hη 2 (by simp)
  refine np_op (vs := [S [c]]) (by simp [SV.val, h1]) (wp_lenS ?_)
  refine np_op (vs := [i64 1, i64 0]) (by simp [SV.val, upd]) ⟨.i64, 1, 0, .bool false, rfl, rfl, ?_⟩
  refine np_F (by simp [SV.val, upd]) ?_
  show NP.wp P _ _ (upd (upd (upd _ 27 _) 28 _) 29 _) w
  refine np_loop (fun m η w' => η 1 = S [c] ∧ η 2 = S [] ∧ ∃ (r out : Bs) (d : Value), η 29 = S r ∧ η 28 = d ∧ m = r.length ∧ out ++ r.filter (· != c) = l.filter (· != c) ∧ out.length + r.length ≤ l.length ∧ Own w' w.heap.size I.e8 d out ∧ RowKit.Below w.heap.size w w') l.length
    ⟨by simp [upd, h1], by simp [upd, h2], l, [], .slice none 0 0, by simp [upd, SV.val, h0], by simp [upd, SV.val], rfl, rfl, by simp, ⟨⟨rfl, .inl ⟨rfl, rfl⟩⟩, Nat.le_refl _⟩, RowKit.Below.refl _ _⟩ ?_
  rintro m η w1 ⟨h1, h2, r, out, d, h29, h28, hm, hout, hle, hown, k1⟩
  refine np_op (vs := [S r, S [c]]) (by simp [SV.val, h29, h1]) (index_ok hn hi (by omega) ?_)
  cases ha : at1 c r with
  | none =>
    have hidx : idx c r = -1 := by simp [idx, ha]
    rw [hidx]
    refine np_op (vs := [i64 (-1), i64 0]) (by simp [SV.val, upd]) ⟨.i64, -1, 0, .bool true, rfl, rfl, ?_⟩
    refine np_T (by simp [SV.val, upd]) ?_
    refine np_op (vs := [d, S r]) (by simp [SV.val, upd, h28, h29]) (wp_appS hown (by unfold lim; omega) fun d' w2 o2 k2 => ?_)
    have hsl : Sl0 w2 d' (out ++ r) := by
      rcases o2.1.2 with ⟨q1, q2⟩ | ⟨b, cap, cur, q1, q2, q3, q4, q5, q6, q7⟩
      · exact .inl ⟨q1, by simpa using q2⟩
      · refine .inr ⟨⟨b, 0, none⟩, cap, q1, fun j hj => ?_⟩
        have hr : Row w2 b cur.toList := ⟨I.e8, by rw [q3]⟩
        rw [Addr.add_mid, Nat.zero_add]
        refine hr.cell ?_
        have := congrArg (fun l => l[j]?) q7
        simp only [Nat.mul_one, List.getElem?_take, hj, if_true, List.getElem?_map, List.getElem?_eq_getElem hj, Option.map_some] at this
        exact this
    refine np_op (vs := [d']) (by simp [SV.val, upd]) ⟨d', out ++ r, rfl, hsl, ?_⟩
    have hres : out ++ r = l.filter (· != c) := by rw [← hout, at1_none ha]
    show K (pack _) w2
    have hk2 : Keep [] w w2 := Keep.of_below (k1.trans k2)
    simpa [pack, SV.val, upd, hres] using hk w2 hk2
  | some i =>
    obtain ⟨a1, a2, a3⟩ := at1_some ha
    have hidx : idx c r = i := by simp [idx, ha]
    rw [hidx]
    refine np_op (vs := [i64 i, i64 0]) (by simp [SV.val, upd]) ⟨.i64, i, 0, .bool false, rfl, by simp [binV], ?_⟩
    refine np_F (by simp [SV.val, upd]) ?_
    refine np_op (vs := [S r, i64 i]) (by simp [SV.val, upd, h29]) (wp_slT (by omega) ?_)
    refine np_op (vs := [d, S (r.take i)]) (by simp [SV.val, upd, h28]) (wp_appS hown (by simp only [List.length_take]; unfold lim; omega) fun d' w2 o2 k2 => ?_)
    refine np_op (vs := [d', S []]) (by simp [SV.val, upd, h2]) (wp_appS o2 (by simp only [List.length_append, List.length_take, List.length_nil]; unfold lim; omega) fun d3 w3 o3 k3 => ?_)
    refine np_op (vs := [S [c]]) (by simp [SV.val, upd, h1]) (wp_lenS ?_)
    refine np_op (vs := [i64 i, i64 1]) (by simp [SV.val, upd]) (wp_add (by omega) (by omega) ?_)
    refine np_op (vs := [S r, i64 ((i + 1 : Nat) : Int)]) (by simp [SV.val, upd, h29]) (wp_slD (by omega) ?_)
    show ∃ j, j < m ∧ _
    refine ⟨(r.drop (i + 1)).length, by simp; omega, by simp [upd, h1], by simp [upd, h2], r.drop (i + 1), out ++ r.take i ++ [], d3, by simp [upd, SV.val], by simp [upd, SV.val], rfl, ?_, ?_, o3, ?_⟩
    · rw [← hout, filter_at ha]; simp
    · simp; omega
    · exact (k1.trans k2).trans k3

end
end Go.Nm

/- Texts: a text without some marks, without blanks, its letters small: as the package and as the reference does it. -/
namespace Go.Nm
open Go.Lx Go.Nx Go.Km Go.Mx Go.Kb

set_option linter.unusedSimpArgs false
set_option linter.unusedVariables false

def p_strnorm (I : NI) : FnP := ⟨.op (.call I.replace) [.s 0, .k (.string ⟨#[46]⟩), .k (.string ByteArray.empty)] 1 <|
  .op (.call I.replace) [.s 1, .k (.string ⟨#[95]⟩), .k (.string ByteArray.empty)] 2 <|
  .op (.call I.replace) [.s 2, .k (.string ⟨#[45]⟩), .k (.string ByteArray.empty)] 3 <|
  .op (.call I.trim) [.s 3] 4 <|
  .op (.call I.lower) [.s 4] 5 <|
  .ret [.s 5], [.direct]⟩

def p_blank : FnP := ⟨.op (.bin .eql) [.s 0, .k (.int .u8 32)] 1 <|
  .ite (.s 1)
    (.set 10 (.k (.bool true)) <|
    .set 11 (.k (.tuple #[])) <|
    .set 12 (.k (.tuple #[])) <|
    .set 13 (.k (.tuple #[])) <|
    .set 14 (.k (.tuple #[])) <|
    .set 15 (.k (.tuple #[])) <|
    .set 16 (.k (.tuple #[])) <|
    .set 17 (.k (.bool true)) <|
    .set 18 (.k (.bool true)) <|
    .nil)
    (.op (.bin .geq) [.s 0, .k (.int .u8 9)] 2 <|
    .ite (.s 2)
      (.op (.bin .leq) [.s 0, .k (.int .u8 13)] 3 <|
      .set 4 (.k (.bool true)) <|
      .set 5 (.s 0) <|
      .set 6 (.s 3) <|
      .set 7 (.s 3) <|
      .set 8 (.s 3) <|
      .set 9 (.s 3) <|
      .nil)
      (.set 4 (.k (.bool false)) <|
      .set 5 (.k (.tuple #[])) <|
      .set 6 (.k (.tuple #[])) <|
      .set 7 (.k (.bool false)) <|
      .set 8 (.k (.bool false)) <|
      .set 9 (.k (.bool false)) <|
      .nil) <|
    .set 10 (.k (.bool false)) <|
    .set 11 (.s 0) <|
    .set 12 (.s 2) <|
    .set 13 (.s 4) <|
    .set 14 (.s 5) <|
    .set 15 (.s 6) <|
    .set 16 (.s 7) <|
    .set 17 (.s 8) <|
    .set 18 (.s 9) <|
    .nil) <|
  .ret [.s 18], [.direct]⟩

def p_normal (I : NI) : FnP := ⟨.set 1 (.k (.slice none 0 0)) <|
  .set 2 (.k (.int .i64 0)) <|
  .loop
    (.op .lenS [.s 0] 3 <|
    .op (.bin .lss) [.s 2, .s 3] 4 <|
    .ite (.s 4)
      (.nil)
      (.exit) <|
    .op .idxS [.s 0, .s 2] 5 <|
    .op (.bin .geq) [.s 5, .k (.int .u8 65)] 6 <|
    .ite (.s 6)
      (.set 7 (.s 5) <|
      .nil)
      (.set 7 (.k (.tuple #[])) <|
      .nil) <|
    .ite (.s 6)
      (.op (.bin .leq) [.s 7, .k (.int .u8 90)] 8 <|
      .set 9 (.s 8) <|
      .nil)
      (.set 9 (.k (.tuple #[])) <|
      .nil) <|
    .ite (.s 6)
      (.set 10 (.s 9) <|
      .nil)
      (.set 10 (.k (.bool false)) <|
      .nil) <|
    .ite (.s 10)
      (.op (.bin .add) [.s 5, .k (.int .u8 32)] 11 <|
      .set 12 (.s 11) <|
      .nil)
      (.set 12 (.s 5) <|
      .nil) <|
    .op (.bin .neq) [.s 12, .k (.int .u8 46)] 13 <|
    .ite (.s 13)
      (.set 14 (.s 12) <|
      .nil)
      (.set 14 (.k (.tuple #[])) <|
      .nil) <|
    .ite (.s 13)
      (.op (.bin .neq) [.s 14, .k (.int .u8 95)] 15 <|
      .set 16 (.s 15) <|
      .nil)
      (.set 16 (.k (.tuple #[])) <|
      .nil) <|
    .ite (.s 13)
      (.set 17 (.s 16) <|
      .nil)
      (.set 17 (.k (.bool false)) <|
      .nil) <|
    .ite (.s 17)
      (.set 18 (.s 12) <|
      .nil)
      (.set 18 (.k (.tuple #[])) <|
      .nil) <|
    .ite (.s 17)
      (.op (.bin .neq) [.s 18, .k (.int .u8 45)] 19 <|
      .set 20 (.s 19) <|
      .nil)
      (.set 20 (.k (.tuple #[])) <|
      .nil) <|
    .ite (.s 17)
      (.set 21 (.s 20) <|
      .nil)
      (.set 21 (.k (.bool false)) <|
      .nil) <|
    .ite (.s 21)
      (.op (.bsl I.e8) [.s 12] 22 <|
      .op (.app I.e8) [.s 1, .s 22] 23 <|
      .set 24 (.s 23) <|
      .nil)
      (.set 24 (.s 1) <|
      .nil) <|
    .op (.bin .add) [.s 2, .k (.int .i64 1)] 25 <|
    .set 26 (.s 24) <|
    .set 27 (.s 25) <|
    .set 1 (.s 26) <|
    .set 2 (.s 27) <|
    .nil) <|
  .set 28 (.s 1) <|
  .loop
    (.op .len [.s 28] 29 <|
    .op (.bin .gtr) [.s 29, .k (.int .i64 0)] 30 <|
    .ite (.s 30)
      (.set 31 (.s 28) <|
      .nil)
      (.set 31 (.k (.tuple #[])) <|
      .nil) <|
    .ite (.s 30)
      (.op (.ia 1) [.s 31, .k (.int .i64 0)] 32 <|
      .chk 32 <|
      .set 33 (.q 32 0) <|
      .nil)
      (.set 33 (.k (.tuple #[])) <|
      .nil) <|
    .ite (.s 30)
      (.op .load [.s 33] 34 <|
      .set 35 (.s 34) <|
      .nil)
      (.set 35 (.k (.tuple #[])) <|
      .nil) <|
    .ite (.s 30)
      (.op (.call I.blank) [.s 35] 36 <|
      .set 37 (.s 36) <|
      .nil)
      (.set 37 (.k (.tuple #[])) <|
      .nil) <|
    .ite (.s 30)
      (.set 38 (.s 37) <|
      .nil)
      (.set 38 (.k (.bool false)) <|
      .nil) <|
    .ite (.s 38)
      (.nil)
      (.exit) <|
    .op (.sl 1 true false false) [.s 28, .k (.int .i64 1)] 39 <|
    .set 40 (.s 39) <|
    .set 28 (.s 40) <|
    .nil) <|
  .set 41 (.s 28) <|
  .loop
    (.op .len [.s 41] 42 <|
    .op (.bin .gtr) [.s 42, .k (.int .i64 0)] 43 <|
    .ite (.s 43)
      (.set 44 (.s 41) <|
      .nil)
      (.set 44 (.k (.tuple #[])) <|
      .nil) <|
    .ite (.s 43)
      (.set 45 (.s 41) <|
      .nil)
      (.set 45 (.k (.tuple #[])) <|
      .nil) <|
    .ite (.s 43)
      (.op .len [.s 45] 46 <|
      .set 47 (.s 46) <|
      .nil)
      (.set 47 (.k (.tuple #[])) <|
      .nil) <|
    .ite (.s 43)
      (.op (.bin .sub) [.s 47, .k (.int .i64 1)] 48 <|
      .set 49 (.s 48) <|
      .nil)
      (.set 49 (.k (.tuple #[])) <|
      .nil) <|
    .ite (.s 43)
      (.op (.ia 1) [.s 44, .s 49] 50 <|
      .chk 50 <|
      .set 51 (.q 50 0) <|
      .nil)
      (.set 51 (.k (.tuple #[])) <|
      .nil) <|
    .ite (.s 43)
      (.op .load [.s 51] 52 <|
      .set 53 (.s 52) <|
      .nil)
      (.set 53 (.k (.tuple #[])) <|
      .nil) <|
    .ite (.s 43)
      (.op (.call I.blank) [.s 53] 54 <|
      .set 55 (.s 54) <|
      .nil)
      (.set 55 (.k (.tuple #[])) <|
      .nil) <|
    .ite (.s 43)
      (.set 56 (.s 55) <|
      .nil)
      (.set 56 (.k (.bool false)) <|
      .nil) <|
    .ite (.s 56)
      (.nil)
      (.exit) <|
    .op .len [.s 41] 57 <|
    .op (.bin .sub) [.s 57, .k (.int .i64 1)] 58 <|
    .op (.sl 1 false true false) [.s 41, .s 58] 59 <|
    .set 60 (.s 59) <|
    .set 41 (.s 60) <|
    .nil) <|
  .op .toStr [.s 41] 61 <|
  .ret [.s 61], [.direct]⟩

def low (l : Bs) : Prop := ∀ b ∈ l, b.toNat < 128

/-- What stays true of a world where nothing turns that was there. -/
def Stays (X : World → Prop) : Prop := ∀ w w', X w → Keep [] w w' → X w'

section
variable {P : Program}

def TrimOk (P : Program) (X : World → Prop) (f : FuncId) : Prop := ∀ (w : World) (l : Bs) (K : Value → World → Prop), low l → l.length < 1048576 → X w → (∀ w', Keep [] w w' → K (S (Lib.trimSpace l)) w') → In.wp P (.call f) [S l] w K
def LowerOk (P : Program) (f : FuncId) : Prop := ∀ (w : World) (l : Bs) (K : Value → World → Prop), low l → l.length < 1048576 → (∀ w', Keep [] w w' → K (S (Lib.toLowerA l)) w') → In.wp P (.call f) [S l] w K

theorem low_filter {l : Bs} (h : low l) (p : UInt8 → Bool) : low (l.filter p) := fun b hb => h b (List.mem_filter.1 hb).1

theorem mem_drop {p : UInt8 → Bool} {b : UInt8} : ∀ {l : Bs}, b ∈ l.dropWhile p → b ∈ l := by
  intro l
  induction l with
  | nil => intro h; exact h
  | cons x r ih =>
    intro h
    rw [List.dropWhile_cons] at h
    split at h
    · exact List.mem_cons_of_mem _ (ih h)
    · exact h

theorem low_trim {l : Bs} (h : low l) : low (Lib.trimSpace l) := fun b hb => by
  unfold Lib.trimSpace at hb
  rw [List.mem_reverse] at hb
  have := mem_drop hb
  rw [List.mem_reverse] at this
  exact h b (mem_drop this)

theorem len_drop {p : UInt8 → Bool} (l : Bs) : (l.dropWhile p).length ≤ l.length := by
  induction l with
  | nil => simp
  | cons x r ih =>
    rw [List.dropWhile_cons]
    split
    · simp; omega
    · simp

theorem len_trim (l : Bs) : (Lib.trimSpace l).length ≤ l.length := by
  unfold Lib.trimSpace
  rw [List.length_reverse]
  refine Nat.le_trans (len_drop _) ?_
  rw [List.length_reverse]
  exact len_drop _

theorem strnorm_ok (hn : Named P) {I : NI} {X : World → Prop} (hX : Stays X) (hi : fnP P I.index 2 = some p_index) (hr : fnP P I.replace 3 = some (p_replace I)) (ht : TrimOk P X I.trim) (hl : LowerOk P I.lower) {f : FuncId} (hf : fnP P f 1 = some (p_strnorm I))
    {l : Bs} (hlow : low l) (hlen : l.length < 1048576) {w : World} {K : Value → World → Prop} (hx : X w) (hk : ∀ w', Keep [] w w' → K (S (norm l)) w') : In.wp P (.call f) [S l] w K := by
  refine calls_of_np hn (vs := [S l]) hf fun η hη => ?_
  have h0 : η 0 = S l := hη 0 (by simp)
  have fl : ∀ (p : UInt8 → Bool) (m : Bs), (m.filter p).length ≤ m.length := fun p m => List.length_filter_le p m
  refine np_op (vs := [S l, S [46], S []]) (by simp [SV.val, h0]; rfl) (replace_ok hn hi hr hlen fun w1 k1 => ?_)
  have a1 := fl (· != 46) l
  refine np_op (vs := [S (l.filter (· != 46)), S [95], S []]) (by simp [SV.val, upd]; rfl) (replace_ok hn hi hr (by omega) fun w2 k2 => ?_)
  have a2 := fl (· != 95) (l.filter (· != 46))
  refine np_op (vs := [S ((l.filter (· != 46)).filter (· != 95)), S [45], S []]) (by simp [SV.val, upd]; rfl) (replace_ok hn hi hr (by omega) fun w3 k3 => ?_)
  have a3 := fl (· != 45) ((l.filter (· != 46)).filter (· != 95))
  have low3 := low_filter (low_filter (low_filter hlow (· != 46)) (· != 95)) (· != 45)
  have k13 := (k1.then k2).then k3
  refine np_op (vs := [S (((l.filter (· != 46)).filter (· != 95)).filter (· != 45))]) (by simp [SV.val, upd]) (ht w3 _ _ low3 (by omega) (hX w w3 hx k13) fun w4 k4 => ?_)
  have a4 := len_trim (((l.filter (· != 46)).filter (· != 95)).filter (· != 45))
  refine np_op (vs := [S (Lib.trimSpace (((l.filter (· != 46)).filter (· != 95)).filter (· != 45)))]) (by simp [SV.val, upd]) (hl w4 _ _ (low_trim low3) (by omega) fun w5 k5 => ?_)
  show K (pack _) w5
  have := hk w5 ((k13.then k4).then k5)
  rw [← norm_eq] at this
  exact this

theorem blank_ok (hn : Named P) {f : FuncId} (hf : fnP P f 1 = some p_blank) {b : UInt8} {w : World} {K : Value → World → Prop} (hk : K (.bool (Lib.isSp b)) w) : In.wp P (.call f) [u8 b] w K := by
  refine calls_of_np hn (vs := [u8 b]) hf fun η hη => ?_
  have h0 : η 0 = u8 b := hη 0 (by simp)
  have hsp : Lib.isSp b = ((b.toNat : Int) == 32 || (decide ((b.toNat : Int) ≥ 9) && decide ((b.toNat : Int) ≤ 13))) := by
    have := all256 (p := fun b => Lib.isSp b == ((b.toNat : Int) == 32 || (decide ((b.toNat : Int) ≥ 9) && decide ((b.toNat : Int) ≤ 13)))) (by kernel_rfl) b
    simpa using this
  refine np_op (vs := [u8 b, .int .u8 32]) (by simp [SV.val, h0]) ⟨.u8, b.toNat, 32, .bool ((b.toNat : Int) == 32), rfl, rfl, ?_⟩
  cases h32 : (b.toNat : Int) == 32 with
  | true =>
    refine np_T (by simp [SV.val, upd, h32]) ?_
    show K (pack _) w
    rw [h32] at hsp
    simpa [pack, SV.val, upd, hsp] using hk
  | false =>
    refine np_F (by simp [SV.val, upd, h32]) ?_
    refine np_op (vs := [u8 b, .int .u8 9]) (by simp [SV.val, upd, h0]) ⟨.u8, b.toNat, 9, .bool (decide ((b.toNat : Int) ≥ 9)), rfl, rfl, ?_⟩
    cases h9 : decide ((b.toNat : Int) ≥ 9) with
    | true =>
      refine np_T (by simp [SV.val, upd, h9]) ?_
      refine np_op (vs := [u8 b, .int .u8 13]) (by simp [SV.val, upd, h0]) ⟨.u8, b.toNat, 13, .bool (decide ((b.toNat : Int) ≤ 13)), rfl, rfl, ?_⟩
      show K (pack _) w
      rw [h32, h9] at hsp
      simpa [pack, SV.val, upd, hsp] using hk
    | false =>
      refine np_F (by simp [SV.val, upd, h9]) ?_
      show K (pack _) w
      rw [h32, h9] at hsp
      simpa [pack, SV.val, upd, hsp] using hk

end
end Go.Nm

/- Texts: a text without some marks, without blanks, its letters small: as the reference does it. -/
namespace Go.Nm
open Go.Lx Go.Nx Go.Km Go.Mx Go.Kb

set_option linter.unusedSimpArgs false
set_option linter.unusedVariables false

section
variable {P : Program}

abbrev Slw (w : World) (v : Value) (bs : Bs) : Prop := Sl (fun _ => True) w v bs

theorem own_slw {w : World} {B : Nat} {e : TypeId} {d : Value} {out : Bs} (h : Own w B e d out) : Slw w d out := by
  rcases h.1.2 with ⟨h1, h2⟩ | ⟨b, cap, cur, h1, h2, h3, h4, h5, h6, h7⟩
  · exact .inl ⟨h1, by simpa using h2⟩
  · refine .inr ⟨⟨b, 0, none⟩, cap, h1, h4, (Array.getElem?_eq_some_iff.1 h3).1, trivial, fun j hj => ?_⟩
    have hr : Row w b cur.toList := ⟨e, by rw [h3]⟩
    rw [Addr.add_mid, Nat.zero_add]
    refine hr.cell ?_
    have := congrArg (fun l => l[j]?) h7
    simp only [Nat.mul_one, List.getElem?_take, hj, if_true, List.getElem?_map, List.getElem?_eq_getElem hj, Option.map_some] at this
    exact this

theorem slw_len {w : World} {v : Value} {bs : Bs} (h : Slw w v bs) : ∃ a c, v = .slice a bs.length c := by
  rcases h with ⟨rfl, rfl⟩ | ⟨a, c, h, _⟩
  · exact ⟨none, 0, rfl⟩
  · exact ⟨some a, c, h⟩

theorem slw_cons {w : World} {v : Value} {b : UInt8} {bs : Bs} (h : Slw w v (b :: bs)) : ∃ a c, v = .slice (some a) (b :: bs).length c ∧ (b :: bs).length ≤ c ∧ BytesIn (fun _ => True) w a (b :: bs) := by
  rcases h with ⟨_, h⟩ | h
  · cases h
  · exact h

/-- One octet of what an octet comes to. -/
def lowK (b : UInt8) : Bs := if mark (Lib.lowerB b) then [] else [Lib.lowerB b]

theorem lowK_flat (l : Bs) : (l.map lowK).flatten = (l.map Lib.lowerB).filter fun b => !mark b := by
  induction l with
  | nil => rfl
  | cons b r ih =>
    simp only [List.map_cons, List.flatten_cons, List.filter_cons, lowK, ih]
    cases mark (Lib.lowerB b) <;> simp

theorem drop_last (l : Bs) (p : UInt8 → Bool) (b : UInt8) (h : p b = true) : ((l ++ [b]).reverse.dropWhile p).reverse = (l.reverse.dropWhile p).reverse := by
  simp [List.dropWhile_cons, h]

def nTail : NP := .op (.bin .add) [.s 2, .k (.int .i64 1)] 25 <| .set 26 (.s 24) <| .set 27 (.s 25) <| .set 1 (.s 26) <| .set 2 (.s 27) <| .nil
def nApp (I : NI) : NP := .ite (.s 21) (.op (.bsl I.e8) [.s 12] 22 <| .op (.app I.e8) [.s 1, .s 22] 23 <| .set 24 (.s 23) <| .nil) (.set 24 (.s 1) <| .nil) <| nTail
def nMark (I : NI) : NP := .op (.bin .neq) [.s 12, .k (.int .u8 46)] 13 <|
  .ite (.s 13) (.set 14 (.s 12) <| .nil) (.set 14 (.k (.tuple #[])) <| .nil) <|
  .ite (.s 13) (.op (.bin .neq) [.s 14, .k (.int .u8 95)] 15 <| .set 16 (.s 15) <| .nil) (.set 16 (.k (.tuple #[])) <| .nil) <|
  .ite (.s 13) (.set 17 (.s 16) <| .nil) (.set 17 (.k (.bool false)) <| .nil) <|
  .ite (.s 17) (.set 18 (.s 12) <| .nil) (.set 18 (.k (.tuple #[])) <| .nil) <|
  .ite (.s 17) (.op (.bin .neq) [.s 18, .k (.int .u8 45)] 19 <| .set 20 (.s 19) <| .nil) (.set 20 (.k (.tuple #[])) <| .nil) <|
  .ite (.s 17) (.set 21 (.s 20) <| .nil) (.set 21 (.k (.bool false)) <| .nil) <| nApp I
def nLow (I : NI) : NP := .ite (.s 10) (.op (.bin .add) [.s 5, .k (.int .u8 32)] 11 <| .set 12 (.s 11) <| .nil) (.set 12 (.s 5) <| .nil) <| nMark I
def nUp (I : NI) : NP := .op (.bin .geq) [.s 5, .k (.int .u8 65)] 6 <|
  .ite (.s 6) (.set 7 (.s 5) <| .nil) (.set 7 (.k (.tuple #[])) <| .nil) <|
  .ite (.s 6) (.op (.bin .leq) [.s 7, .k (.int .u8 90)] 8 <| .set 9 (.s 8) <| .nil) (.set 9 (.k (.tuple #[])) <| .nil) <|
  .ite (.s 6) (.set 10 (.s 9) <| .nil) (.set 10 (.k (.bool false)) <| .nil) <| nLow I

theorem u8_beq (x : UInt8) (k : Nat) (hk : k < 256) : (((x.toNat : Nat) : Int) != (k : Int)) = (x != UInt8.ofNat k) := by
  have h : ((x.toNat : Int) = (k : Int)) ↔ x = UInt8.ofNat k := by
    constructor
    · intro h
      have : x.toNat = k := by omega
      rw [← this]; simp
    · intro h; subst h; simp [Nat.mod_eq_of_lt hk]
  by_cases hx : x = UInt8.ofNat k
  · have := h.2 hx
    simp only [bne, beq_iff_eq.2 this, beq_iff_eq.2 hx]
  · have : ¬ ((x.toNat : Int) = (k : Int)) := fun hh => hx (h.1 hh)
    simp only [bne, beq_eq_false_iff_ne.2 this, beq_eq_false_iff_ne.2 hx]

theorem n_mark {I : NI} {x : UInt8} {Q : PostN} {η : Nat → Value} {w : World} (h12 : η 12 = u8 x) (hk : ∀ η', (∀ j, j < 13 → η' j = η j) → η' 21 = .bool (!mark x) → (nApp I).wp P Q η' w) : (nMark I).wp P Q η w := by
  have e46 := u8_beq x 46 (by omega)
  have e95 := u8_beq x 95 (by omega)
  have e45 := u8_beq x 45 (by omega)
  have hm : (!mark x) = ((x != 46) && ((x != 95) && (x != 45))) := by
    unfold mark
    cases h1 : x == 46 <;> cases h2 : x == 95 <;> cases h3 : x == 45 <;> simp [bne, h1, h2, h3]
  have keep : ∀ (η' : Nat → Value), (∀ j, j < 13 → η' j = η j) → ∀ n v, 13 ≤ n → ∀ j, j < 13 → upd η' n v j = η j := fun η' h n v hn j hj => by unfold upd; rw [if_neg (by omega)]; exact h j hj
  have k0 : ∀ j, j < 13 → η j = η j := fun _ _ => rfl
  refine np_op (vs := [u8 x, .int .u8 46]) (by simp [SV.val, h12]) ⟨.u8, x.toNat, 46, .bool (x != 46), rfl, by simp only [binV]; exact congrArg (fun b => some (Value.bool b)) e46, ?_⟩
  have k1 := keep η k0 13 (.bool (x != 46)) (by omega)
  cases h1 : x != 46 with
  | false =>
    rw [h1] at k1 hm
    refine np_F (by simp [SV.val, upd]) ?_
    refine np_F (by simp [SV.val, upd]) ?_
    refine np_F (by simp [SV.val, upd]) ?_
    refine np_F (by simp [SV.val, upd]) ?_
    refine np_F (by simp [SV.val, upd]) ?_
    refine np_F (by simp [SV.val, upd]) ?_
    refine hk _ (keep _ (keep _ (keep _ (keep _ (keep _ (keep _ k1 14 _ (by omega)) 16 _ (by omega)) 17 _ (by omega)) 18 _ (by omega)) 20 _ (by omega)) 21 _ (by omega)) ?_
    simp [upd, SV.val, hm]
  | true =>
    rw [h1] at k1 hm
    refine np_T (by simp [SV.val, upd]) ?_
    have k2 := keep _ k1 14 (SV.val (upd η 13 (.bool true)) (.s 12)) (by omega)
    refine np_T (by simp [SV.val, upd]) ?_
    refine np_op (vs := [u8 x, .int .u8 95]) (by simp [SV.val, upd, h12]) ⟨.u8, x.toNat, 95, .bool (x != 95), rfl, by simp only [binV]; exact congrArg (fun b => some (Value.bool b)) e95, ?_⟩
    refine np_T (by simp [SV.val, upd]) ?_
    cases h2 : x != 95 with
    | false =>
      rw [h2] at hm
      refine np_F (by simp [SV.val, upd]) ?_
      refine np_F (by simp [SV.val, upd]) ?_
      refine np_F (by simp [SV.val, upd]) ?_
      refine hk _ (keep _ (keep _ (keep _ (keep _ (keep _ (keep _ k2 15 _ (by omega)) 16 _ (by omega)) 17 _ (by omega)) 18 _ (by omega)) 20 _ (by omega)) 21 _ (by omega)) ?_
      simp [upd, SV.val, hm]
    | true =>
      rw [h2] at hm
      refine np_T (by simp [SV.val, upd]) ?_
      refine np_T (by simp [SV.val, upd]) ?_
      refine np_op (vs := [u8 x, .int .u8 45]) (by simp [SV.val, upd, h12]) ⟨.u8, x.toNat, 45, .bool (x != 45), rfl, by simp only [binV]; exact congrArg (fun b => some (Value.bool b)) e45, ?_⟩
      refine np_T (by simp [SV.val, upd]) ?_
      refine hk _ (keep _ (keep _ (keep _ (keep _ (keep _ (keep _ (keep _ k2 15 _ (by omega)) 16 _ (by omega)) 17 _ (by omega)) 18 _ (by omega)) 19 _ (by omega)) 20 _ (by omega)) 21 _ (by omega)) ?_
      simp [upd, SV.val, hm]

theorem n_low {I : NI} {b : UInt8} {Q : PostN} {η : Nat → Value} {w : World} (h5 : η 5 = u8 b) (hk : ∀ η', (∀ j, j < 6 → η' j = η j) → η' 12 = u8 (Lib.lowerB b) → (nMark I).wp P Q η' w) : (nUp I).wp P Q η w := by
  have hlow : (if decide ((b.toNat : Int) ≥ 65) && decide ((b.toNat : Int) ≤ 90) then Value.int .u8 (IntKind.u8.wrap ((b.toNat : Int) + 32)) else u8 b) = u8 (Lib.lowerB b) := by
    have := all256 (p := fun b => (if decide ((b.toNat : Int) ≥ 65) && decide ((b.toNat : Int) ≤ 90) then IntKind.u8.wrap ((b.toNat : Int) + 32) else (b.toNat : Int)) == ((Lib.lowerB b).toNat : Int)) (by kernel_rfl) b
    simp only [beq_iff_eq] at this
    unfold u8
    rw [← this]
    split <;> rfl
  have keep : ∀ (η' : Nat → Value), (∀ j, j < 6 → η' j = η j) → ∀ n v, 6 ≤ n → ∀ j, j < 6 → upd η' n v j = η j := fun η' h n v hn j hj => by unfold upd; rw [if_neg (by omega)]; exact h j hj
  have k0 : ∀ j, j < 6 → η j = η j := fun _ _ => rfl
  refine np_op (vs := [u8 b, .int .u8 65]) (by simp [SV.val, h5]) ⟨.u8, b.toNat, 65, .bool (decide ((b.toNat : Int) ≥ 65)), rfl, rfl, ?_⟩
  have k1 := keep η k0 6 (.bool (decide ((b.toNat : Int) ≥ 65))) (by omega)
  cases h1 : decide ((b.toNat : Int) ≥ 65) with
  | false =>
    rw [h1] at k1 hlow
    simp only [Bool.false_and, Bool.false_eq_true, if_false] at hlow
    refine np_F (by simp [SV.val, upd]) ?_
    refine np_F (by simp [SV.val, upd]) ?_
    refine np_F (by simp [SV.val, upd]) ?_
    refine np_F (by simp [SV.val, upd]) ?_
    refine hk _ (keep _ (keep _ (keep _ (keep _ k1 7 _ (by omega)) 9 _ (by omega)) 10 _ (by omega)) 12 _ (by omega)) ?_
    simp [upd, SV.val, h5, hlow]
  | true =>
    rw [h1] at k1 hlow
    simp only [Bool.true_and] at hlow
    refine np_T (by simp [SV.val, upd]) ?_
    refine np_T (by simp [SV.val, upd]) ?_
    refine np_op (vs := [u8 b, .int .u8 90]) (by simp [SV.val, upd, h5]) ⟨.u8, b.toNat, 90, .bool (decide ((b.toNat : Int) ≤ 90)), rfl, rfl, ?_⟩
    refine np_T (by simp [SV.val, upd]) ?_
    cases h2 : decide ((b.toNat : Int) ≤ 90) with
    | false =>
      rw [h2] at hlow
      simp only [Bool.false_eq_true, if_false] at hlow
      refine np_F (by simp [SV.val, upd]) ?_
      refine hk _ (keep _ (keep _ (keep _ (keep _ (keep _ k1 7 _ (by omega)) 8 _ (by omega)) 9 _ (by omega)) 10 _ (by omega)) 12 _ (by omega)) ?_
      simp [upd, SV.val, h5, hlow]
    | true =>
      rw [h2] at hlow
      simp only [if_true] at hlow
      refine np_T (by simp [SV.val, upd]) ?_
      refine np_op (vs := [u8 b, .int .u8 32]) (by simp [SV.val, upd, h5]) ⟨.u8, b.toNat, 32, _, rfl, rfl, ?_⟩
      refine hk _ (keep _ (keep _ (keep _ (keep _ (keep _ (keep _ k1 7 _ (by omega)) 8 _ (by omega)) 9 _ (by omega)) 10 _ (by omega)) 11 _ (by omega)) 12 _ (by omega)) ?_
      simp [upd, SV.val, hlow]

/-- An octet more, or not. -/
theorem n_app {I : NI} {x : UInt8} {Q : PostN} {η : Nat → Value} {w : World} {B : Nat} {d : Value} {out : Bs} {i : Nat} (h12 : η 12 = u8 x) (h21 : η 21 = .bool (!mark x)) (h1 : η 1 = d) (h2 : η 2 = i64 i) (hi : i < 1048576) (ho : Own w B I.e8 d out) (hl : out.length < 1048576)
    (hk : ∀ η' w' d', η' 0 = η 0 → η' 1 = d' → η' 2 = i64 ((i + 1 : Nat) : Int) → Own w' B I.e8 d' (out ++ (if mark x then [] else [x])) → RowKit.Below B w w' → Q .nrm η' w') : (nApp I).wp P Q η w := by
  have tail : ∀ η' w' d', η' 0 = η 0 → η' 2 = i64 i → η' 24 = d' → Own w' B I.e8 d' (out ++ (if mark x then [] else [x])) → RowKit.Below B w w' → nTail.wp P Q η' w' := by
    intro η' w' d' g0 g2 g24 go gb
    refine np_op (vs := [i64 i, i64 1]) (by simp [SV.val, g2]) (wp_add (by omega) (by omega) ?_)
    show Q .nrm _ _
    refine hk _ w' d' (by simp [upd, g0]) (by simp [upd, SV.val, g24]) (by simp [upd, SV.val]) go gb
  cases hm : mark x with
  | true =>
    rw [hm] at h21 tail
    refine np_F (by simp [SV.val, h21]) ?_
    refine tail _ w d (by simp [upd]) (by simp [upd, h2]) (by simp [upd, SV.val, h1]) (by simpa using ho) (RowKit.Below.refl _ _)
  | false =>
    rw [hm] at h21 tail
    refine np_T (by simp [SV.val, h21]) ?_
    refine np_op (vs := [u8 x]) (by simp [SV.val, h12]) ⟨fun v hv => by rw [List.mem_singleton.1 hv]; exact ⟨_, rfl⟩, ?_⟩
    have ka := alloc_row (w := w) [u8 x] I.e8
    have hB : B ≤ w.heap.size := ho.2
    have kb : RowKit.Below B w (w.alloc (.cells [u8 x].toArray I.e8)) := ka.2.below (by simp) hB
    have ho' : Own (w.alloc (.cells [u8 x].toArray I.e8)) B I.e8 d out := by
      refine ⟨⟨ho.1.1, ?_⟩, Nat.le_trans ho.2 ka.2.size⟩
      rcases ho.1.2 with q | ⟨b, cap, cur, q1, q2, q3, q4⟩
      · exact .inl q
      · refine .inr ⟨b, cap, cur, q1, q2, ?_, q4⟩
        rw [ka.2.block b (Array.getElem?_eq_some_iff.1 q3).1 (by simp)]; exact q3
    have hsl : Sl0 (w.alloc (.cells [u8 x].toArray I.e8)) (.slice (some ⟨w.heap.size, 0, none⟩) 1 1) [x] := by
      refine .inr ⟨⟨w.heap.size, 0, none⟩, 1, rfl, fun j hj => ?_⟩
      rw [Addr.add_mid, Nat.zero_add]
      refine ka.1.cell ?_
      simp only [List.length_singleton] at hj
      have : j = 0 := by omega
      subst this; rfl
    refine np_op (vs := [d, .slice (some ⟨w.heap.size, 0, none⟩) 1 1]) (by simp [SV.val, upd, h1]) (wp_app ho' hsl (by simp; unfold lim; omega) fun d' w2 o2 k2 => ?_)
    exact tail _ w2 d' (by simp [upd]) (by simp [upd, h2]) (by simp [upd, SV.val]) (by simpa using o2) (kb.trans k2)

def nFront (I : NI) (k : NP) : NP := .loop
    (.op .len [.s 28] 29 <|
    .op (.bin .gtr) [.s 29, .k (.int .i64 0)] 30 <|
    .ite (.s 30) (.set 31 (.s 28) <| .nil) (.set 31 (.k (.tuple #[])) <| .nil) <|
    .ite (.s 30) (.op (.ia 1) [.s 31, .k (.int .i64 0)] 32 <| .chk 32 <| .set 33 (.q 32 0) <| .nil) (.set 33 (.k (.tuple #[])) <| .nil) <|
    .ite (.s 30) (.op .load [.s 33] 34 <| .set 35 (.s 34) <| .nil) (.set 35 (.k (.tuple #[])) <| .nil) <|
    .ite (.s 30) (.op (.call I.blank) [.s 35] 36 <| .set 37 (.s 36) <| .nil) (.set 37 (.k (.tuple #[])) <| .nil) <|
    .ite (.s 30) (.set 38 (.s 37) <| .nil) (.set 38 (.k (.bool false)) <| .nil) <|
    .ite (.s 38) (.nil) (.exit) <|
    .op (.sl 1 true false false) [.s 28, .k (.int .i64 1)] 39 <|
    .set 40 (.s 39) <|
    .set 28 (.s 40) <|
    .nil) k

theorem bytes_at {w : World} {a : Addr} {bs : Bs} (h : BytesIn (fun _ => True) w a bs) {j : Nat} {b : UInt8} (hb : bs[j]? = some b) : w.cell? (a.add j) = some (u8 b) := by
  obtain ⟨hj, rfl⟩ := List.getElem?_eq_some_iff.1 hb
  exact h.2.2 j hj

theorem n_front (hn : Named P) {I : NI} (hb : fnP P I.blank 1 = some p_blank) {k : NP} {Q : PostN} {η : Nat → Value} {w : World} {v : Value} {bs : Bs} (h28 : η 28 = v) (hs : Slw w v bs)
    (hk : ∀ η' v', η' 28 = v' → Slw w v' (bs.dropWhile Lib.isSp) → k.wp P Q η' w) : (nFront I k).wp P Q η w := by
  refine np_loop (fun m η w' => w' = w ∧ ∃ (cs : Bs) (v : Value), η 28 = v ∧ Slw w v cs ∧ cs.dropWhile Lib.isSp = bs.dropWhile Lib.isSp ∧ m = cs.length) bs.length ⟨rfl, bs, v, h28, hs, rfl, rfl⟩ ?_
  rintro m η w ⟨rfl, cs, v, h28, hs, hd, hm⟩
  cases cs with
  | nil =>
    obtain ⟨a, c, hv⟩ := slw_len hs
    refine np_op (vs := [v]) (by simp [SV.val, h28]) ⟨a, 0, c, by rw [hv]; rfl, ?_⟩
    refine np_op (vs := [i64 0, i64 0]) (by simp [SV.val, upd]; rfl) ⟨.i64, 0, 0, .bool false, rfl, rfl, ?_⟩
    refine np_F (by simp [SV.val, upd]) ?_
    refine np_F (by simp [SV.val, upd]) ?_
    refine np_F (by simp [SV.val, upd]) ?_
    refine np_F (by simp [SV.val, upd]) ?_
    refine np_F (by simp [SV.val, upd]) ?_
    refine np_F (by simp [SV.val, upd]) ?_
    show k.wp P Q _ w
    refine hk _ v (by simp [upd, h28]) ?_
    rw [← hd]; exact hs
  | cons b r =>
    obtain ⟨a, c, hv, hc, hby⟩ := slw_cons hs
    refine np_op (vs := [v]) (by simp [SV.val, h28]) ⟨some a, _, c, by rw [hv], ?_⟩
    refine np_op (vs := [i64 ((r.length : Int) + 1), i64 0]) (by simp [SV.val, upd, goInt]) ⟨.i64, _, 0, .bool true, rfl, by simp only [binV]; exact congrArg (fun b => some (Value.bool b)) (by simp), ?_⟩
    refine np_T (by simp [SV.val, upd]) ?_
    refine np_T (by simp [SV.val, upd]) ?_
    refine np_op (vs := [v, i64 0]) (by simp [SV.val, upd, h28]) ⟨a, _, c, .i64, 0, by rw [hv]; rfl, by simp, ?_⟩
    refine ⟨⟨_, by simp only [upd]; rfl⟩, ?_⟩
    refine np_T (by simp [SV.val, upd]) ?_
    have hcell : w.cell? a = some (u8 b) := by
      have := bytes_at hby (j := 0) (b := b) rfl
      simpa [Addr.add] using this
    refine np_op (vs := [.pointer (some a)]) (by simp [SV.val, upd, Addr.add]) ⟨a, u8 b, rfl, hcell, ?_⟩
    refine np_T (by simp [SV.val, upd]) ?_
    refine np_op (vs := [u8 b]) (by simp [SV.val, upd]) (blank_ok hn hb ?_)
    refine np_T (by simp [SV.val, upd]) ?_
    cases hsp : Lib.isSp b with
    | false =>
      refine np_F (by simp [SV.val, upd, hsp]) ?_
      show k.wp P Q _ w
      refine hk _ v (by simp [upd, h28]) ?_
      rw [← hd, List.dropWhile_cons, hsp]
      simpa using hs
    | true =>
      refine np_T (by simp [SV.val, upd, hsp]) ?_
      have hs' : Slw w (.slice (if c = 1 then some a else some (a.add 1)) r.length (c - 1)) r := by
        split
        · rename_i hc1
          have : r = [] := List.eq_nil_of_length_eq_zero (by simp at hc; omega)
          subst this
          exact .inr ⟨a, c - 1, rfl, by simp, hby.nil⟩
        · have := hby.drop 1
          simp only [List.drop_succ_cons, List.drop_zero] at this
          exact .inr ⟨a.add 1, c - 1, rfl, by simp at hc; omega, this⟩
      refine np_op (vs := [v, i64 1]) (by simp [SV.val, upd, h28]) ⟨some a, r.length + 1, c, [i64 1], by rw [hv]; rfl, ?_⟩
      simp only [bnd, Bool.false_eq_true, if_false, if_true]
      refine ⟨.i64, 1, [], rfl, rfl, by omega, by simpa using hc, Nat.le_refl _, ?_⟩
      show ∃ j, j < m ∧ _
      refine ⟨r.length, by simp at hm; omega, rfl, r, _, by simp [upd, SV.val]; rfl, ?_, ?_, rfl⟩
      · exact hs'
      · rw [← hd, List.dropWhile_cons, hsp]; simp

def nBack (I : NI) (k : NP) : NP := .loop
    (.op .len [.s 41] 42 <|
    .op (.bin .gtr) [.s 42, .k (.int .i64 0)] 43 <|
    .ite (.s 43) (.set 44 (.s 41) <| .nil) (.set 44 (.k (.tuple #[])) <| .nil) <|
    .ite (.s 43) (.set 45 (.s 41) <| .nil) (.set 45 (.k (.tuple #[])) <| .nil) <|
    .ite (.s 43) (.op .len [.s 45] 46 <| .set 47 (.s 46) <| .nil) (.set 47 (.k (.tuple #[])) <| .nil) <|
    .ite (.s 43) (.op (.bin .sub) [.s 47, .k (.int .i64 1)] 48 <| .set 49 (.s 48) <| .nil) (.set 49 (.k (.tuple #[])) <| .nil) <|
    .ite (.s 43) (.op (.ia 1) [.s 44, .s 49] 50 <| .chk 50 <| .set 51 (.q 50 0) <| .nil) (.set 51 (.k (.tuple #[])) <| .nil) <|
    .ite (.s 43) (.op .load [.s 51] 52 <| .set 53 (.s 52) <| .nil) (.set 53 (.k (.tuple #[])) <| .nil) <|
    .ite (.s 43) (.op (.call I.blank) [.s 53] 54 <| .set 55 (.s 54) <| .nil) (.set 55 (.k (.tuple #[])) <| .nil) <|
    .ite (.s 43) (.set 56 (.s 55) <| .nil) (.set 56 (.k (.bool false)) <| .nil) <|
    .ite (.s 56) (.nil) (.exit) <|
    .op .len [.s 41] 57 <|
    .op (.bin .sub) [.s 57, .k (.int .i64 1)] 58 <|
    .op (.sl 1 false true false) [.s 41, .s 58] 59 <|
    .set 60 (.s 59) <|
    .set 41 (.s 60) <|
    .nil) k

theorem wp_sub {x y : Int} {w : World} {K : Value → World → Prop} (h0 : -9223372036854775808 ≤ x - y) (h1 : x - y < 9223372036854775808) (hk : K (i64 (x - y)) w) : In.wp P (.bin .sub) [i64 x, i64 y] w K :=
  ⟨.i64, x, y, _, rfl, rfl, by rw [wrap64 h0 h1]; exact hk⟩

theorem n_back (hn : Named P) {I : NI} (hb : fnP P I.blank 1 = some p_blank) {k : NP} {Q : PostN} {η : Nat → Value} {w : World} {v : Value} {bs : Bs} (h41 : η 41 = v) (hs : Slw w v bs) (hlen : bs.length < 1048576)
    (hk : ∀ η' v', η' 41 = v' → Slw w v' ((bs.reverse.dropWhile Lib.isSp).reverse) → k.wp P Q η' w) : (nBack I k).wp P Q η w := by
  refine np_loop (fun m η w' => w' = w ∧ ∃ (cs : Bs) (v : Value), η 41 = v ∧ Slw w v cs ∧ (cs.reverse.dropWhile Lib.isSp).reverse = (bs.reverse.dropWhile Lib.isSp).reverse ∧ m = cs.length ∧ cs.length ≤ bs.length) bs.length ⟨rfl, bs, v, h41, hs, rfl, rfl, Nat.le_refl _⟩ ?_
  rintro m η w ⟨rfl, cs, v, h41, hs, hd, hm, hle⟩
  rcases List.eq_nil_or_concat cs with rfl | ⟨r, b, rfl⟩
  · obtain ⟨a, c, hv⟩ := slw_len hs
    refine np_op (vs := [v]) (by simp [SV.val, h41]) ⟨a, 0, c, by rw [hv]; rfl, ?_⟩
    refine np_op (vs := [i64 0, i64 0]) (by simp [SV.val, upd]; rfl) ⟨.i64, 0, 0, .bool false, rfl, rfl, ?_⟩
    refine np_F (by simp [SV.val, upd]) ?_
    refine np_F (by simp [SV.val, upd]) ?_
    refine np_F (by simp [SV.val, upd]) ?_
    refine np_F (by simp [SV.val, upd]) ?_
    refine np_F (by simp [SV.val, upd]) ?_
    refine np_F (by simp [SV.val, upd]) ?_
    refine np_F (by simp [SV.val, upd]) ?_
    refine np_F (by simp [SV.val, upd]) ?_
    refine np_F (by simp [SV.val, upd]) ?_
    show k.wp P Q _ w
    refine hk _ v (by simp [upd, h41]) ?_
    rw [← hd]; exact hs
  · rw [List.concat_eq_append] at hs hd hm hle
    have hrl : (r ++ [b]).length = r.length + 1 := by simp
    rw [hrl] at hle hm
    obtain ⟨a, c, hv, hc, hby⟩ : ∃ a c, v = .slice (some a) (r.length + 1) c ∧ r.length + 1 ≤ c ∧ BytesIn (fun _ => True) w a (r ++ [b]) := by
      rcases hs with ⟨_, h⟩ | ⟨a, c, h1, h2, h3⟩
      · simp at h
      · rw [hrl] at h1 h2; exact ⟨a, c, h1, h2, h3⟩
    refine np_op (vs := [v]) (by simp [SV.val, h41]) ⟨some a, _, c, by rw [hv], ?_⟩
    refine np_op (vs := [i64 ((r.length : Int) + 1), i64 0]) (by simp [SV.val, upd, goInt]) ⟨.i64, _, 0, .bool true, rfl, by simp only [binV]; exact congrArg (fun b => some (Value.bool b)) (by simp), ?_⟩
    refine np_T (by simp [SV.val, upd]) ?_
    refine np_T (by simp [SV.val, upd]) ?_
    refine np_T (by simp [SV.val, upd]) ?_
    refine np_op (vs := [v]) (by simp [SV.val, upd, h41]) ⟨some a, _, c, by rw [hv], ?_⟩
    refine np_T (by simp [SV.val, upd]) ?_
    refine np_op (vs := [i64 ((r.length : Int) + 1), i64 1]) (by simp [SV.val, upd, goInt]) (wp_sub (by omega) (by omega) ?_)
    refine np_T (by simp [SV.val, upd]) ?_
    refine np_op (vs := [v, i64 (r.length : Int)]) (by simp [SV.val, upd, h41]) ⟨a, _, c, .i64, r.length, by rw [hv], by omega, ?_⟩
    refine ⟨⟨_, by simp only [upd]; rfl⟩, ?_⟩
    refine np_T (by simp [SV.val, upd]) ?_
    have hcell : w.cell? (a.add (r.length * 1)) = some (u8 b) := bytes_at hby (by simp)
    refine np_op (vs := [.pointer (some (a.add (r.length * 1)))]) (by simp [SV.val, upd, add_add']) ⟨_, u8 b, rfl, hcell, ?_⟩
    refine np_T (by simp [SV.val, upd]) ?_
    refine np_op (vs := [u8 b]) (by simp [SV.val, upd]) (blank_ok hn hb ?_)
    refine np_T (by simp [SV.val, upd]) ?_
    cases hsp : Lib.isSp b with
    | false =>
      refine np_F (by simp [SV.val, upd, hsp]) ?_
      show k.wp P Q _ w
      refine hk _ v (by simp [upd, h41]) ?_
      rw [← hd]
      simpa [List.dropWhile_cons, hsp] using hs
    | true =>
      refine np_T (by simp [SV.val, upd, hsp]) ?_
      refine np_op (vs := [v]) (by simp [SV.val, upd, h41]) ⟨some a, _, c, by rw [hv], ?_⟩
      refine np_op (vs := [i64 ((r.length : Int) + 1), i64 1]) (by simp [SV.val, upd, goInt]) (wp_sub (by omega) (by omega) ?_)
      refine np_op (vs := [v, i64 (r.length : Int)]) (by simp [SV.val, upd, h41]) ⟨some a, r.length + 1, c, [i64 (r.length : Int)], by rw [hv], ?_⟩
      simp only [bnd, Bool.false_eq_true, if_false, if_true]
      refine ⟨.i64, r.length, [], rfl, rfl, Nat.zero_le _, by omega, Nat.le_refl _, ?_⟩
      show ∃ j, j < m ∧ _
      refine ⟨r.length, by omega, rfl, r, _, by simp [upd, SV.val]; rfl, ?_, ?_, rfl, by omega⟩
      · have hbr := hby.take r.length
        rw [List.take_left'  rfl] at hbr
        have e : (if c = 0 then some a else some (a.add 0)) = some a := by split <;> simp [Addr.add]
        show Slw w (.slice (if c = 0 then some a else some (a.add 0)) r.length c) r
        rw [e]
        exact .inr ⟨a, c, rfl, by omega, hbr⟩
      · rw [← hd, drop_last r Lib.isSp b hsp]

theorem normal_ok (hn : Named P) {I : NI} (hb : fnP P I.blank 1 = some p_blank) {f : FuncId} (hf : fnP P f 1 = some (p_normal I)) {l : Bs} (hlen : l.length < 1048576) {w : World} {K : Value → World → Prop} (hk : ∀ w', Keep [] w w' → K (S (norm l)) w') :
    In.wp P (.call f) [S l] w K := by
  refine calls_of_np hn (vs := [S l]) hf fun η hη => ?_
  have h0 : η 0 = S l := hη 0 (by simp)
  show NP.wp P _ _ (upd (upd η 1 _) 2 _) w
  have flen : ∀ m : Bs, ((m.map lowK).flatten).length ≤ m.length := by
    intro m
    induction m with
    | nil => simp
    | cons b r ih =>
      simp only [List.map_cons, List.flatten_cons, List.length_append, List.length_cons]
      have : (lowK b).length ≤ 1 := by unfold lowK; split <;> simp
      omega
  refine np_loop (fun m η w' => η 0 = S l ∧ ∃ (i : Nat) (d : Value), η 2 = i64 i ∧ η 1 = d ∧ i ≤ l.length ∧ m = l.length - i ∧ Own w' w.heap.size I.e8 d ((l.take i).map lowK).flatten ∧ RowKit.Below w.heap.size w w') l.length
    ⟨by simp [upd, h0], 0, .slice none 0 0, by simp [upd, SV.val], by simp [upd, SV.val], by simp, by simp, ⟨⟨rfl, .inl ⟨rfl, rfl⟩⟩, Nat.le_refl _⟩, RowKit.Below.refl _ _⟩ ?_
  rintro m η w1 ⟨h0, i, d, h2, h1, hi, hm, hown, k1⟩
  refine np_op (vs := [S l]) (by simp [SV.val, h0]) (wp_lenS ?_)
  refine np_op (vs := [i64 i, i64 l.length]) (by simp [SV.val, upd, h2]) ⟨.i64, _, _, .bool (decide ((i : Int) < l.length)), rfl, rfl, ?_⟩
  by_cases hlt : i < l.length
  · refine np_T (by simp [SV.val, upd]; omega) ?_
    have hget : (⟨l.toArray⟩ : ByteArray)[i]? = some l[i] := by
      have : (⟨l.toArray⟩ : ByteArray).size = l.length := rfl
      rw [getElem?_pos _ i (by omega)]
      rfl
    refine np_op (vs := [S l, i64 i]) (by simp [SV.val, upd, h0, h2]) ⟨_, .i64, i, l[i], rfl, hget, ?_⟩
    refine n_low (I := I) (b := l[i]) (by simp [upd]) fun η1 g1 g12 => ?_
    refine n_mark g12 fun η2 q1 q21 => ?_
    have e0 : η2 0 = S l := by rw [q1 0 (by omega), g1 0 (by omega)]; simp [upd, h0]
    have e1 : η2 1 = d := by rw [q1 1 (by omega), g1 1 (by omega)]; simp [upd, h1]
    have e2 : η2 2 = i64 i := by rw [q1 2 (by omega), g1 2 (by omega)]; simp [upd, h2]
    have e12 : η2 12 = u8 (Lib.lowerB l[i]) := by rw [q1 12 (by omega)]; exact g12
    have hl1 := flen (l.take i)
    simp only [List.length_take] at hl1
    refine n_app e12 q21 e1 e2 (by omega) hown (by omega) fun η3 w3 d3 r0 r1 r2 ro rb => ?_
    show ∃ j, j < m ∧ _
    refine ⟨l.length - (i + 1), by omega, by rw [r0]; exact e0, i + 1, d3, r2, r1, by omega, rfl, ?_, k1.trans rb⟩
    rw [List.take_succ_eq_append_getElem hlt, List.map_append, List.flatten_append]
    simpa [lowK] using ro
  · refine np_F (by simp [SV.val, upd]; omega) ?_
    have hil : i = l.length := by omega
    have hsl := own_slw hown
    rw [hil, List.take_length, lowK_flat] at hsl
    show NP.wp P (.set 28 (.s 1) (nFront I (.set 41 (.s 28) (nBack I (.op .toStr [.s 41] 61 (.ret [.s 61])))))) _ _ w1
    show NP.wp P (nFront I (.set 41 (.s 28) (nBack I (.op .toStr [.s 41] 61 (.ret [.s 61]))))) _ (upd _ 28 _) w1
    refine n_front hn hb (v := d) (by simp [upd, SV.val, h1]) hsl fun η2 v2 g28 hs2 => ?_
    show NP.wp P (nBack I (.op .toStr [.s 41] 61 (.ret [.s 61]))) _ (upd η2 41 _) w1
    have hlen2 : (((l.map Lib.lowerB).filter fun b => !mark b).dropWhile Lib.isSp).length < 1048576 := by
      have a1 := len_drop (p := Lib.isSp) ((l.map Lib.lowerB).filter fun b => !mark b)
      have a2 := List.length_filter_le (fun b => !mark b) (l.map Lib.lowerB)
      simp only [List.length_map] at a2
      omega
    refine n_back hn hb (v := v2) (by simp [upd, SV.val, g28]) hs2 hlen2 fun η3 v3 g41 hs3 => ?_
    refine np_op (vs := [v3]) (by simp [SV.val, g41]) ⟨v3, _, rfl, hs3.sl0, ?_⟩
    show K (pack _) w1
    exact hk w1 (Keep.of_below k1)

end
end Go.Nm

/- Texts read as values: a switch over words; errors; what is unmarshalled. -/
namespace Go.Nm
open Go.Lx Go.Nx Go.Km Go.Mx Go.Kb

set_option linter.unusedSimpArgs false
set_option linter.unusedVariables false

def p_new (t : TypeId) : FnP := ⟨.op (.lit [.string ByteArray.empty] [0]) [.s 0] 1 <|
  .op (.box 1) [.s 1] 2 <|
  .chk 2 <|
  .op (.mkif t) [.q 2 0] 3 <|
  .ret [.s 3], [.direct]⟩

/-- A switch over words: the value of the one that it is; else an error. -/
def swP (fe : FuncId) (msg : Bs) : Nat → List (Bs × Int) → NP
  | n, [] => .op (.call fe) [.k (S msg)] n (.ret [.k (.int .i8 0), .s n])
  | n, (u, v) :: r => .op (.eqS false) [.s 1, .k (S u)] n (.ite (.s n) (.ret [.k (.int .i8 v), .k .nilIface]) (swP fe msg (n + 1) r) .nil)

def p_parse (I : NI) (fe : FuncId) (msg : Bs) (ws : List (Bs × Int)) : FnP := ⟨.op (.call I.strnorm) [.s 0] 1 <| swP fe msg 2 ws, [.direct, .direct]⟩

def p_implParse (fp : FuncId) : FnP := ⟨.op (.call fp) [.s 0] 1 <|
  .op (.ex 0) [.s 1] 2 <|
  .op (.ex 1) [.s 1] 3 <|
  .op (.isNil 2 true) [.s 3] 4 <|
  .ite (.s 4)
    (.ret [.k (.int .i64 0), .k (.bool false)])
    (.nil) <|
  .op (.cv .i64) [.s 2] 5 <|
  .ret [.s 5, .k (.bool true)], [.direct, .direct]⟩

def p_unm (fp : FuncId) : FnP := ⟨.op .toStr [.s 1] 2 <|
  .op (.call fp) [.s 2] 3 <|
  .op (.ex 0) [.s 3] 4 <|
  .op (.ex 1) [.s 3] 5 <|
  .chk 0 <|
  .op (.store 1) [.q 0 0, .s 4] 6 <|
  .ret [.s 5], [.direct]⟩

def p_ofText (e8 : TypeId) (fu : FuncId) : FnP := ⟨.op (.alloc [.int .i8 0]) [] 1 <|
  .chk 1 <|
  .op (.app e8) [.k (.slice none 0 0), .s 0] 2 <|
  .op (.call fu) [.q 1 0, .s 2] 3 <|
  .op (.isNil 2 true) [.s 3] 4 <|
  .ite (.s 4)
    (.ret [.k (.int .i64 0), .k (.bool false)])
    (.nil) <|
  .op .load [.q 1 0] 5 <|
  .op (.cv .i64) [.s 5] 6 <|
  .ret [.s 6, .k (.bool true)], [.direct, .direct]⟩

section
variable {P : Program}

theorem new_ok (hn : Named P) {t : TypeId} {f : FuncId} (hf : fnP P f 1 = some (p_new t)) {l : Bs} {w : World} {K : Value → World → Prop} (hk : ∀ v w', Keep [] w w' → K (.iface t v) w') : In.wp P (.call f) [S l] w K := by
  refine calls_of_np hn (vs := [S l]) hf fun η hη => ?_
  have h0 : η 0 = S l := hη 0 (by simp)
  refine np_op (vs := [S l]) (by simp [SV.val, h0]) ⟨rfl, fun v hv => by rw [List.mem_singleton.1 hv]; exact ⟨rfl, rfl⟩, ?_⟩
  refine np_op (vs := [.agg #[S l]]) (by simp [SV.val, upd, putAll]) ⟨_, rfl, rfl, fun e => ?_⟩
  refine ⟨⟨_, by simp only [upd]; rfl⟩, ?_⟩
  have ka := (alloc_row (w := w) [S l] e).2
  refine np_op (vs := [.pointer (some ⟨w.heap.size, 0, none⟩)]) (by simp [SV.val, upd, Addr.add]) ⟨_, rfl, ?_⟩
  exact hk _ _ ka

theorem sw_ok (hn : Named P) {t : TypeId} {fe : FuncId} (he : fnP P fe 1 = some (p_new t)) {msg : Bs} : ∀ (ws : List (Bs × Int)) (n : Nat) {η : Nat → Value} {w : World} {y : Bs} {Q : PostN}, 2 ≤ n → η 1 = S y →
    (∀ x, ws.find? (fun x => x.1 == y) = some x → ∀ η', Q (.ret [.int .i8 x.2, .nilIface]) η' w) → (ws.find? (fun x => x.1 == y) = none → ∀ v η' w', Keep [] w w' → Q (.ret [.int .i8 0, .iface t v]) η' w') → (swP fe msg n ws).wp P Q η w := by
  intro ws
  induction ws with
  | nil =>
    intro n η w y Q hn2 h1 hs hno
    refine np_op (vs := [S msg]) (by simp [SV.val]) (new_ok hn he fun v w' k => ?_)
    have := hno rfl v (upd η n (.iface t v)) w' k
    show Q _ _ _
    simpa [SV.val, upd] using this
  | cons x r ih =>
    intro n η w y Q hn2 h1 hs hno
    obtain ⟨u, v⟩ := x
    refine np_op (vs := [S y, S u]) (by simp [SV.val, h1]) (wp_eqS ?_)
    have hyu : ((y == u) != false) = (u == y) := by
      by_cases h : u = y
      · subst h; simp
      · have h' : ¬ y = u := fun e => h e.symm
        have e1 : (y == u) = false := by simpa using h'
        have e2 : (u == y) = false := by simpa using h
        rw [e1, e2]; rfl
    rw [hyu]
    by_cases hc : u = y
    · have hc' : (u == y) = true := by simpa using hc
      refine np_T (by simp [SV.val, upd, hc']) ?_
      exact hs (u, v) (by simp [List.find?_cons, hc']) _
    · have hc' : (u == y) = false := by simpa using hc
      refine np_F (by simp [SV.val, upd, hc']) ?_
      exact ih (n + 1) (y := y) (by omega) (by unfold upd; rw [if_neg (by omega)]; exact h1) (fun x hx η' => hs x (by simpa [List.find?_cons, hc'] using hx) η') (fun hx v η' w' k => hno (by simpa [List.find?_cons, hc'] using hx) v η' w' k)

/-- What reading a text comes to. -/
def found (ws : List (Bs × Int)) (l : Bs) : Option Int := (ws.find? (fun x => x.1 == norm l)).map (·.2)

/-- The package's own reading. -/
def ParseOk (P : Program) (X : World → Prop) (t : TypeId) (ws : List (Bs × Int)) (f : FuncId) : Prop := ∀ (w : World) (l : Bs) (K : Value → World → Prop), low l → l.length < 1048576 → X w →
  (∀ v w', found ws l = some v → Keep [] w w' → K (.tuple #[.int .i8 v, .nilIface]) w') → (∀ v w', found ws l = none → Keep [] w w' → K (.tuple #[.int .i8 0, .iface t v]) w') → In.wp P (.call f) [S l] w K

theorem parse_ok (hn : Named P) {I : NI} {X : World → Prop} (hX : Stays X) (hi : fnP P I.index 2 = some p_index) (hr : fnP P I.replace 3 = some (p_replace I)) (ht : TrimOk P X I.trim) (hl : LowerOk P I.lower) (hs : fnP P I.strnorm 1 = some (p_strnorm I))
    {t : TypeId} {fe : FuncId} (he : fnP P fe 1 = some (p_new t)) {msg : Bs} {ws : List (Bs × Int)} {f : FuncId} (hf : fnP P f 1 = some (p_parse I fe msg ws)) : ParseOk P X t ws f := by
  intro w l K hlow hlen hx hk1 hk2
  refine calls_of_np hn (vs := [S l]) hf fun η hη => ?_
  have h0 : η 0 = S l := hη 0 (by simp)
  refine np_op (vs := [S l]) (by simp [SV.val, h0]) (strnorm_ok hn hX hi hr ht hl hs hlow hlen hx fun w1 k1 => ?_)
  refine sw_ok hn he ws 2 (y := norm l) (Nat.le_refl _) (by simp [upd]) (fun x hx η' => ?_) fun hx v η' w' k => ?_
  · show K (pack _) w1
    exact hk1 x.2 w1 (by unfold found; rw [hx]; rfl) k1
  · show K (pack _) w'
    exact hk2 v w' (by unfold found; rw [hx]; rfl) (k1.then k)

/-- The thin package's: the value, and whether there was no error. -/
def TakeOk (P : Program) (X : World → Prop) (ws : List (Bs × Int)) (f : FuncId) (arg : World → Bs → Value → Prop) : Prop := ∀ (w : World) (l : Bs) (v : Value) (K : Value → World → Prop), arg w l v → low l → l.length < 1048576 → X w →
  (∀ w', Keep [] w w' → K (.tuple #[i64 ((found ws l).getD 0), .bool (found ws l).isSome]) w') → In.wp P (.call f) [v] w K

def small (ws : List (Bs × Int)) : Bool := ws.all fun x => decide (-128 ≤ x.2) && decide (x.2 < 128)

theorem small_found {ws : List (Bs × Int)} (h : small ws = true) {l : Bs} {v : Int} (hv : found ws l = some v) : -128 ≤ v ∧ v < 128 := by
  unfold found at hv
  simp only [Option.map_eq_some_iff] at hv
  obtain ⟨x, hx, rfl⟩ := hv
  have := (List.all_eq_true.1 h) x (List.mem_of_find?_eq_some hx)
  simpa using this

theorem implParse_ok (hn : Named P) {X : World → Prop} {t : TypeId} {ws : List (Bs × Int)} {fp : FuncId} (hp : ParseOk P X t ws fp) (hsm : small ws = true) {f : FuncId} (hf : fnP P f 1 = some (p_implParse fp)) : TakeOk P X ws f (fun _ l v => v = S l) := by
  intro w l v K hv hlow hlen hx hk
  subst hv
  refine calls_of_np hn (vs := [S l]) hf fun η hη => ?_
  have h0 : η 0 = S l := hη 0 (by simp)
  refine np_op (vs := [S l]) (by simp [SV.val, h0]) (hp w l _ hlow hlen hx (fun v w1 hf1 k1 => ?_) fun v w1 hf1 k1 => ?_)
  · have hv := small_found hsm hf1
    rw [hf1] at hk
    refine np_op (vs := [.tuple #[.int .i8 v, .nilIface]]) (by simp [SV.val, upd]) ⟨_, _, rfl, rfl, ?_⟩
    refine np_op (vs := [.tuple #[.int .i8 v, .nilIface]]) (by simp [SV.val, upd]) ⟨_, _, rfl, rfl, ?_⟩
    refine np_op (vs := [.nilIface]) (by simp [SV.val, upd]) ⟨_, true, rfl, rfl, ?_⟩
    refine np_F (by simp [SV.val, upd]) ?_
    refine np_op (vs := [.int .i8 v]) (by simp [SV.val, upd]) ⟨.i8, v, rfl, ?_⟩
    rw [wrap64 (by omega) (by omega)]
    show K (pack _) w1
    exact hk w1 k1
  · rw [hf1] at hk
    refine np_op (vs := [.tuple #[.int .i8 0, .iface t v]]) (by simp [SV.val, upd]) ⟨_, _, rfl, rfl, ?_⟩
    refine np_op (vs := [.tuple #[.int .i8 0, .iface t v]]) (by simp [SV.val, upd]) ⟨_, _, rfl, rfl, ?_⟩
    refine np_op (vs := [.iface t v]) (by simp [SV.val, upd]) ⟨_, false, rfl, rfl, ?_⟩
    refine np_T (by simp [SV.val, upd]) ?_
    show K (pack _) w1
    exact hk w1 k1

theorem unm_ok (hn : Named P) {X : World → Prop} {t : TypeId} {ws : List (Bs × Int)} {fp f : FuncId} (hp : ParseOk P X t ws fp) (hu : fnP P f 2 = some (p_unm fp)) {w : World} {b : Nat} {x : Value} {d : Value} {l : Bs} {K : Value → World → Prop}
    (hr : Row w b [x]) (hs : Sl0 w d l) (hlow : low l) (hlen : l.length < 1048576) (hx : X w) (hk1 : ∀ v w', found ws l = some v → Row w' b [.int .i8 v] → Keep [b] w w' → K .nilIface w')
    (hk2 : ∀ v w', found ws l = none → Row w' b [.int .i8 0] → Keep [b] w w' → K (.iface t v) w') : In.wp P (.call f) [.pointer (some ⟨b, 0, none⟩), d] w K := by
  refine calls_of_np hn (vs := [.pointer (some ⟨b, 0, none⟩), d]) hu fun ζ hζ => ?_
  have z0 : ζ 0 = .pointer (some ⟨b, 0, none⟩) := hζ 0 (by simp)
  have z1 : ζ 1 = d := hζ 1 (by simp)
  refine np_op (vs := [d]) (by simp [SV.val, z1]) ⟨d, l, rfl, hs, ?_⟩
  refine np_op (vs := [S l]) (by simp [SV.val, upd]) (hp w l _ hlow hlen hx (fun v w3 hf1 k3 => ?_) fun v w3 hf1 k3 => ?_)
  · refine np_op (vs := [.tuple #[.int .i8 v, .nilIface]]) (by simp [SV.val, upd]) ⟨_, _, rfl, rfl, ?_⟩
    refine np_op (vs := [.tuple #[.int .i8 v, .nilIface]]) (by simp [SV.val, upd]) ⟨_, _, rfl, rfl, ?_⟩
    refine ⟨⟨_, by simp only [upd]; exact z0⟩, ?_⟩
    refine np_op (vs := [.pointer (some ⟨b, 0, none⟩), .int .i8 v]) (by simp [SV.val, upd, z0, Addr.add]) (wp_store (hr.keep k3 (by simp)) (Fit.one rfl rfl) (by simp) fun w4 r4 k4 => ?_)
    show K (pack _) w4
    exact hk1 v w4 hf1 r4 ((k3.mono (A' := [b]) fun x hx _ => by cases hx).then k4)
  · refine np_op (vs := [.tuple #[.int .i8 0, .iface t v]]) (by simp [SV.val, upd]) ⟨_, _, rfl, rfl, ?_⟩
    refine np_op (vs := [.tuple #[.int .i8 0, .iface t v]]) (by simp [SV.val, upd]) ⟨_, _, rfl, rfl, ?_⟩
    refine ⟨⟨_, by simp only [upd]; exact z0⟩, ?_⟩
    refine np_op (vs := [.pointer (some ⟨b, 0, none⟩), .int .i8 0]) (by simp [SV.val, upd, z0, Addr.add]) (wp_store (hr.keep k3 (by simp)) (Fit.one rfl rfl) (by simp) fun w4 r4 k4 => ?_)
    show K (pack _) w4
    exact hk2 v w4 hf1 r4 ((k3.mono (A' := [b]) fun x hx _ => by cases hx).then k4)

theorem cell_lt' {w : World} {a : Addr} {v : Value} (h : w.cell? a = some v) : a.block < w.heap.size := by
  unfold World.cell? at h
  rcases Nat.lt_or_ge a.block w.heap.size with h1 | h1
  · exact h1
  · rw [Array.getElem?_eq_none h1] at h
    simp at h

theorem sl0_keep {w w' : World} {v : Value} {l : Bs} (h : Sl0 w v l) (k : Keep [] w w') : Sl0 w' v l := by
  rcases h with hv | ⟨a, c, h1, h2⟩
  · exact .inl hv
  · refine .inr ⟨a, c, h1, fun j hj => ?_⟩
    have := h2 j hj
    rw [World.cell?_of_block (k.block _ (cell_lt' this) (by simp))]; exact this

theorem ofText_ok (hn : Named P) {X : World → Prop} (hX : Stays X) {t : TypeId} {ws : List (Bs × Int)} {fp fu : FuncId} (hp : ParseOk P X t ws fp) (hsm : small ws = true) (hu : fnP P fu 2 = some (p_unm fp)) {e8 : TypeId} {f : FuncId} (hf : fnP P f 1 = some (p_ofText e8 fu)) :
    TakeOk P X ws f (fun w l v => Sl0 w v l) := by
  intro w l v K hv hlow hlen hx hk
  refine calls_of_np hn (vs := [v]) hf fun η hη => ?_
  have h0 : η 0 = v := hη 0 (by simp)
  refine np_op (vs := []) rfl (wp_alloc fun b w1 r1 hb k1 => ?_)
  refine ⟨⟨_, by simp only [upd]; rfl⟩, ?_⟩
  refine np_op (vs := [.slice none 0 0, v]) (by simp [SV.val, upd, h0]) (wp_app (B := w1.heap.size) (out := []) ⟨⟨rfl, .inl ⟨rfl, rfl⟩⟩, Nat.le_refl _⟩ (sl0_keep hv k1) (by simp; unfold lim; omega) fun d w2 o2 k2 => ?_)
  have kk2 := Keep.of_below k2
  have hsl2 := (own_slw o2).sl0
  rw [List.nil_append] at hsl2
  have r2 := r1.keep kk2 (by simp)
  have kw := k1.then kk2
  have fin : ∀ w4 : World, Keep [b] w2 w4 → Keep [] w w4 := fun w4 k4 => kw.trans k4 fun x hx hlt => by
    simp only [List.mem_singleton] at hx; omega
  refine np_op (vs := [.pointer (some ⟨b, 0, none⟩), d]) (by simp [SV.val, upd, Addr.add]) (unm_ok hn hp hu r2 hsl2 hlow hlen (hX w w2 hx kw) (fun v w4 hf1 r4 k4 => ?_) fun v w4 hf1 r4 k4 => ?_)
  · have hv := small_found hsm hf1
    rw [hf1] at hk
    refine np_op (vs := [.nilIface]) (by simp [SV.val, upd]) ⟨_, true, rfl, rfl, ?_⟩
    refine np_F (by simp [SV.val, upd]) ?_
    refine np_op (vs := [.pointer (some ⟨b, 0, none⟩)]) (by simp [SV.val, upd, Addr.add]) (wp_load r4 (v := .int .i8 v) rfl ?_)
    refine np_op (vs := [.int .i8 v]) (by simp [SV.val, upd]) ⟨.i8, v, rfl, ?_⟩
    rw [wrap64 (by omega) (by omega)]
    show K (pack _) w4
    exact hk w4 (fin w4 k4)
  · rw [hf1] at hk
    refine np_op (vs := [.iface t v]) (by simp [SV.val, upd]) ⟨_, false, rfl, rfl, ?_⟩
    refine np_T (by simp [SV.val, upd]) ?_
    show K (pack _) w4
    exact hk w4 (fin w4 k4)

end
end Go.Nm

/- The reference's names: lists of values and words; which text is which. -/
namespace Go.Nm
open Go.Lx Go.Nx Go.Km Go.Mx Go.Kb

set_option linter.unusedSimpArgs false
set_option linter.unusedVariables false

/-- Names in cells. -/
def nameCells (ns : List (Int × Bs)) : List Value := (ns.map fun x => [i64 x.1, S x.2]).flatten

def RepN (w : World) (v : Value) (ns : List (Int × Bs)) : Prop := ∃ A c, v = .slice (some ⟨A, 0, none⟩) ns.length c ∧ Row w A (nameCells ns)

def namesL (all : List SV) : Nat → List (Int × Bs) → NP
  | n, [] => .op (.bslG 2) all n (.ret [.s n])
  | n, x :: r => .op (.lit [.int .i64 0, .string ByteArray.empty] [0, 1]) [.k (i64 x.1), .k (S x.2)] n (namesL (all ++ [.s n]) (n + 1) r)

def p_names (ns : List (Int × Bs)) : FnP := ⟨namesL [] 0 ns, [.direct]⟩

def p_word : FnP := ⟨.op .len [.s 0] 2 <|
  .set 3 (.k (.string ByteArray.empty)) <|
  .set 4 (.k (.bool false)) <|
  .set 5 (.k (.int .i64 0)) <|
  .loop
    (.op (.bin .lss) [.s 5, .s 2] 6 <|
    .ite (.s 6)
      (.nil)
      (.exit) <|
    .op (.ia 2) [.s 0, .s 5] 7 <|
    .chk 7 <|
    .op (.loadN 2) [.q 7 0] 8 <|
    .op (.alloc [.int .i64 0, .string ByteArray.empty]) [] 9 <|
    .chk 9 <|
    .op (.store 2) [.q 9 0, .s 8] 10 <|
    .op .load [.q 9 0] 11 <|
    .op (.bin .eql) [.s 11, .s 1] 12 <|
    .ite (.s 12)
      (.op .load [.q 9 1] 13 <|
      .ret [.s 13, .k (.bool true)])
      (.nil) <|
    .op (.bin .add) [.s 5, .k (.int .i64 1)] 14 <|
    .set 15 (.s 14) <|
    .set 5 (.s 15) <|
    .nil) <|
  .ret [.k (.string ByteArray.empty), .k (.bool false)], [.direct, .direct]⟩

def p_parsed (I : NI) : FnP := ⟨.op .len [.s 0] 2 <|
  .set 3 (.k (.int .i64 0)) <|
  .set 4 (.k (.bool false)) <|
  .set 5 (.k (.int .i64 0)) <|
  .loop
    (.op (.bin .lss) [.s 5, .s 2] 6 <|
    .ite (.s 6)
      (.nil)
      (.exit) <|
    .op (.ia 2) [.s 0, .s 5] 7 <|
    .chk 7 <|
    .op (.loadN 2) [.q 7 0] 8 <|
    .op (.alloc [.int .i64 0, .string ByteArray.empty]) [] 9 <|
    .chk 9 <|
    .op (.store 2) [.q 9 0, .s 8] 10 <|
    .op .load [.q 9 1] 11 <|
    .op (.call I.normal) [.s 11] 12 <|
    .op (.call I.normal) [.s 1] 13 <|
    .op (.eqS false) [.s 12, .s 13] 14 <|
    .ite (.s 14)
      (.op .load [.q 9 0] 15 <|
      .ret [.s 15, .k (.bool true)])
      (.nil) <|
    .op (.bin .add) [.s 5, .k (.int .i64 1)] 16 <|
    .set 17 (.s 16) <|
    .set 5 (.s 17) <|
    .nil) <|
  .ret [.k (.int .i64 0), .k (.bool false)], [.direct, .direct]⟩

def p_plain (I : NI) : FnP := ⟨.op .lenS [.s 0] 1 <|
  .op (.bin .gtr) [.s 1, .k (.int .i64 200)] 2 <|
  .ite (.s 2) (.set 3 (.k (.tuple #[])) <| .nil) (.set 3 (.s 0) <| .nil) <|
  .ite (.s 2) (.set 5 (.k (.tuple #[])) <| .nil) (.op (.call I.normal) [.s 3] 4 <| .set 5 (.s 4) <| .nil) <|
  .ite (.s 2) (.set 7 (.k (.tuple #[])) <| .nil) (.op (.eqS false) [.s 5, .k (S [117, 110, 107, 110, 111, 119, 110])] 6 <| .set 7 (.s 6) <| .nil) <|
  .ite (.s 2) (.set 8 (.k (.bool true)) <| .nil) (.set 8 (.s 7) <| .nil) <|
  .ite (.s 8) (.ret [.k (.bool false)]) (.nil) <|
  .set 9 (.k (.bool false)) <|
  .set 10 (.k (.int .i64 0)) <|
  .loop
    (.op .lenS [.s 0] 11 <|
    .op (.bin .lss) [.s 10, .s 11] 12 <|
    .ite (.s 12)
      (.nil)
      (.exit) <|
    .op .idxS [.s 0, .s 10] 13 <|
    .op (.bin .gtr) [.s 13, .k (.int .u8 127)] 14 <|
    .ite (.s 14)
      (.ret [.k (.bool false)])
      (.nil) <|
    .op (.bin .add) [.s 10, .k (.int .i64 1)] 15 <|
    .set 16 (.s 15) <|
    .set 10 (.s 16) <|
    .nil) <|
  .ret [.k (.bool true)], [.direct]⟩

def p_lawParsed (fp : FuncId) : FnP := ⟨.op (.call fp) [.s 0, .s 1] 4 <|
  .op (.ex 0) [.s 4] 5 <|
  .op (.ex 1) [.s 4] 6 <|
  .op (.eqB false) [.s 3, .s 6] 7 <|
  .ite (.s 7)
    (.op .not [.s 3] 8 <|
    .ite (.s 8)
      (.set 10 (.k (.bool true)) <|
      .set 11 (.k (.tuple #[])) <|
      .set 12 (.k (.tuple #[])) <|
      .set 13 (.k (.tuple #[])) <|
      .set 14 (.k (.bool true)) <|
      .set 15 (.k (.bool true)) <|
      .set 16 (.k (.bool true)) <|
      .nil)
      (.op (.bin .eql) [.s 2, .s 5] 9 <|
      .set 10 (.k (.bool false)) <|
      .set 11 (.s 2) <|
      .set 12 (.s 5) <|
      .set 13 (.s 9) <|
      .set 14 (.s 9) <|
      .set 15 (.s 9) <|
      .set 16 (.s 9) <|
      .nil) <|
    .set 17 (.k (.bool true)) <|
    .set 18 (.s 3) <|
    .set 19 (.s 8) <|
    .set 20 (.s 10) <|
    .set 21 (.s 11) <|
    .set 22 (.s 12) <|
    .set 23 (.s 13) <|
    .set 24 (.s 14) <|
    .set 25 (.s 15) <|
    .set 26 (.s 16) <|
    .nil)
    (.set 17 (.k (.bool false)) <|
    .set 18 (.k (.tuple #[])) <|
    .set 19 (.k (.tuple #[])) <|
    .set 20 (.k (.tuple #[])) <|
    .set 21 (.k (.tuple #[])) <|
    .set 22 (.k (.tuple #[])) <|
    .set 23 (.k (.tuple #[])) <|
    .set 24 (.k (.tuple #[])) <|
    .set 25 (.k (.bool false)) <|
    .set 26 (.k (.bool false)) <|
    .nil) <|
  .ret [.s 26], [.direct]⟩

section
variable {P : Program}

theorem names_go : ∀ (ns : List (Int × Bs)) (all : List SV) (vs : List (Int × Bs)) (n : Nat) {η : Nat → Value} {w : World} {Q : PostN}, all.map (SV.val η) = vs.map (fun x => .agg #[i64 x.1, S x.2]) → (∀ x ∈ all, ∃ j, x = .s j ∧ j < n) →
    (∀ v η' w', RepN w' v (vs ++ ns) → Keep [] w w' → Q (.ret [v]) η' w') → (namesL all n ns).wp P Q η w := by
  intro ns
  induction ns with
  | nil =>
    intro all vs n η w Q h1 h2 hk
    refine np_op (vs := vs.map (fun x => .agg #[i64 x.1, S x.2])) h1 ⟨fun v hv => ?_, fun e => ?_⟩
    · obtain ⟨x, _, rfl⟩ := List.mem_map.1 hv; rfl
    · have hcells : ((vs.map (fun x => Value.agg #[i64 x.1, S x.2])).map (·.cells.toList)).flatten = nameCells vs := by
        unfold nameCells
        rw [List.map_map]
        rfl
      rw [hcells]
      have ka := alloc_row (w := w) (nameCells vs) e
      have := hk (.slice (some ⟨w.heap.size, 0, none⟩) (vs.map (fun x => Value.agg #[i64 x.1, S x.2])).length (vs.map (fun x => Value.agg #[i64 x.1, S x.2])).length) (upd η n (.slice (some ⟨w.heap.size, 0, none⟩) (vs.map (fun x => Value.agg #[i64 x.1, S x.2])).length (vs.map (fun x => Value.agg #[i64 x.1, S x.2])).length)) _ ⟨w.heap.size, (vs.map (fun x => Value.agg #[i64 x.1, S x.2])).length, by simp, by rw [List.append_nil]; exact ka.1⟩ ka.2
      show Q _ _ _
      simpa [SV.val, upd] using this
  | cons x r ih =>
    intro all vs n η w Q h1 h2 hk
    refine np_op (vs := [i64 x.1, S x.2]) (by simp [SV.val]) ⟨rfl, fun v hv => ?_, ?_⟩
    · simp only [List.mem_cons, List.not_mem_nil, or_false] at hv
      rcases hv with rfl | rfl <;> exact ⟨rfl, rfl⟩
    · refine ih (all ++ [.s n]) (vs ++ [x]) (n + 1) ?_ ?_ ?_
      · rw [List.map_append, List.map_append]
        congr 1
        · rw [← h1]
          apply List.map_congr_left
          intro y hy
          obtain ⟨j, rfl, hj⟩ := h2 y hy
          simp only [SV.val, upd]
          rw [if_neg (by omega)]
        · simp [SV.val, upd, putAll]
      · intro y hy
        rcases List.mem_append.1 hy with hy | hy
        · obtain ⟨j, h, hj⟩ := h2 y hy; exact ⟨j, h, by omega⟩
        · exact ⟨n, List.mem_singleton.1 hy, by omega⟩
      · intro v η' w' hv
        exact hk v η' w' (by simpa using hv)

theorem names_ok (hn : Named P) {ns : List (Int × Bs)} {f : FuncId} (hf : fnP P f 0 = some (p_names ns)) {w : World} {K : Value → World → Prop} (hk : ∀ v w', RepN w' v ns → Keep [] w w' → K v w') : In.wp P (.call f) [] w K := by
  refine calls_of_np hn (vs := []) hf fun η hη => ?_
  exact names_go ns [] [] 0 rfl (by simp) fun v η' w' hv k => hk v w' (by simpa using hv) k

theorem nameCells_at {ns : List (Int × Bs)} {i : Nat} {x : Int × Bs} (h : ns[i]? = some x) : ((nameCells ns).drop (i * 2)).take 2 = [i64 x.1, S x.2] := by
  induction ns generalizing i with
  | nil => simp at h
  | cons y r ih =>
    cases i with
    | zero => simp only [List.getElem?_cons_zero, Option.some.injEq] at h; subst h; rfl
    | succ i =>
      simp only [List.getElem?_cons_succ] at h
      have := ih h
      have e : (i + 1) * 2 = i * 2 + 2 := by omega
      rw [e]
      exact this

theorem nameCells_len (ns : List (Int × Bs)) : (nameCells ns).length = ns.length * 2 := by
  unfold nameCells
  induction ns with
  | nil => rfl
  | cons y r ih => simp only [List.map_cons, List.flatten_cons, List.length_append, ih, List.length_cons, List.length_nil]; omega

/-- One round's beginning: the i-th name in a block of its own. -/
theorem name_at {w : World} {A c i : Nat} {ns : List (Int × Bs)} (hr : Row w A (nameCells ns)) (hi : i < ns.length) : ∃ x, ns[i]? = some x ∧ w.rangeAt A (i * 2) [i64 x.1, S x.2] := by
  refine ⟨ns[i], List.getElem?_eq_getElem hi, ?_⟩
  rw [← nameCells_at (List.getElem?_eq_getElem hi)]
  exact hr.range _ _

theorem find_split {α : Type} {p : α → Bool} : ∀ {l : List α} {i : Nat} {x : α}, l[i]? = some x → (∀ j y, j < i → l[j]? = some y → p y = false) → l.find? p = if p x then some x else (l.drop (i + 1)).find? p := by
  intro l
  induction l with
  | nil => intro i x h; simp at h
  | cons a r ih =>
    intro i x h hp
    cases i with
    | zero =>
      simp only [List.getElem?_cons_zero, Option.some.injEq] at h
      subst h
      rw [List.find?_cons]
      cases p a <;> simp
    | succ i =>
      simp only [List.getElem?_cons_succ] at h
      have h0 := hp 0 a (by omega) rfl
      rw [List.find?_cons, h0]
      simp only [Bool.false_eq_true, if_false, List.drop_succ_cons]
      exact ih h fun j y hj hy => hp (j + 1) y (by omega) (by simpa using hy)

theorem find_end {α : Type} {p : α → Bool} {l : List α} (h : ∀ (j : Nat) (y : α), j < l.length → l[j]? = some y → p y = false) : l.find? p = none := by
  rw [List.find?_eq_none]
  intro x hx
  obtain ⟨j, hj, rfl⟩ := List.getElem_of_mem hx
  simpa using h j _ hj (List.getElem?_eq_getElem hj)

theorem word_ok (hn : Named P) {f : FuncId} (hf : fnP P f 2 = some p_word) {ns : List (Int × Bs)} (hl : ns.length < 1048576) {w : World} {v : Value} {n : Int} {K : Value → World → Prop} (hv : RepN w v ns)
    (hk1 : ∀ x w', ns.find? (fun x => x.1 == n) = some x → Keep [] w w' → K (.tuple #[S x.2, .bool true]) w') (hk2 : ∀ w', ns.find? (fun x => x.1 == n) = none → Keep [] w w' → K (.tuple #[S [], .bool false]) w') :
    In.wp P (.call f) [v, i64 n] w K := by
  obtain ⟨A, c, rfl, hr⟩ := hv
  refine calls_of_np hn (vs := [.slice (some ⟨A, 0, none⟩) ns.length c, i64 n]) hf fun η hη => ?_
  have h0 : η 0 = .slice (some ⟨A, 0, none⟩) ns.length c := hη 0 (by simp)
  have h1 : η 1 = i64 n := hη 1 (by simp)
  refine np_op (vs := [.slice (some ⟨A, 0, none⟩) ns.length c]) (by simp [SV.val, h0]) ⟨_, _, _, rfl, ?_⟩
  show NP.wp P _ _ (upd (upd (upd _ 3 _) 4 _) 5 _) w
  refine np_loop (fun m η w' => η 0 = .slice (some ⟨A, 0, none⟩) ns.length c ∧ η 1 = i64 n ∧ η 2 = i64 ns.length ∧ Keep [] w w' ∧ ∃ i : Nat, η 5 = i64 i ∧ i ≤ ns.length ∧ m = ns.length - i ∧ ∀ j y, j < i → ns[j]? = some y → (y.1 == n) = false) ns.length
    ⟨by simp [upd, h0], by simp [upd, h1], by simp [upd, goInt], Keep.refl _ _, 0, by simp [upd, SV.val], by omega, by omega, fun j y hj => by omega⟩ ?_
  rintro m η w1 ⟨h0, h1, h2, k1, i, h5, hi, hm, hno⟩
  refine np_op (vs := [i64 i, i64 ns.length]) (by simp [SV.val, h5, h2]) ⟨.i64, _, _, .bool (decide ((i : Int) < ns.length)), rfl, rfl, ?_⟩
  by_cases hlt : i < ns.length
  · refine np_T (by simp [SV.val, upd]; omega) ?_
    refine np_op (vs := [.slice (some ⟨A, 0, none⟩) ns.length c, i64 i]) (by simp [SV.val, upd, h0, h5]) ⟨_, _, c, .i64, i, rfl, hlt, ?_⟩
    rw [Addr.add_mid, Nat.zero_add]
    refine ⟨⟨_, by simp only [upd]; rfl⟩, ?_⟩
    obtain ⟨x, hx, hrange⟩ := name_at (c := c) (hr.keep k1 (by simp)) hlt
    refine np_op (vs := [.pointer (some ⟨A, i * 2, none⟩)]) (by simp [SV.val, upd, Addr.add]) ⟨A, i * 2, _, rfl, hrange, rfl, ?_⟩
    refine np_op (vs := []) rfl (wp_alloc fun b w2 r2 hb k2 => ?_)
    refine ⟨⟨_, by simp only [upd]; rfl⟩, ?_⟩
    refine np_op (vs := [.pointer (some ⟨b, 0, none⟩), .agg [i64 x.1, S x.2].toArray]) (by simp [SV.val, upd, Addr.add]) (wp_store r2 ⟨rfl, by simp [Value.cells, Value.oneCell']⟩ (by simp) fun w3 r3 k3 => ?_)
    have r3' : Row w3 b [i64 x.1, S x.2] := r3
    have kk : Keep [] w w3 := k1.trans (k2.trans k3 (A' := [b]) fun y hy hlt => by simp only [List.mem_singleton] at hy; omega) fun y hy _ => hy
    refine np_op (vs := [.pointer (some ⟨b, 0, none⟩)]) (by simp [SV.val, upd, Addr.add]) (wp_load r3' (v := i64 x.1) rfl ?_)
    refine np_op (vs := [i64 x.1, i64 n]) (by simp [SV.val, upd, h1]) ⟨.i64, x.1, n, .bool (x.1 == n), rfl, rfl, ?_⟩
    have hfs := find_split (p := fun x : Int × Bs => x.1 == n) hx hno
    cases hc : x.1 == n with
    | true =>
      rw [hc] at hfs
      refine np_T (by simp [SV.val, upd, hc]) ?_
      refine np_op (vs := [.pointer (some ⟨b, 1, none⟩)]) (by simp [SV.val, upd, Addr.add]) (wp_load r3' (v := S x.2) rfl ?_)
      show K (pack _) w3
      exact hk1 x w3 (by simpa using hfs) kk
    | false =>
      refine np_F (by simp [SV.val, upd, hc]) ?_
      refine np_op (vs := [i64 i, i64 1]) (by simp [SV.val, upd, h5]) (wp_add (by omega) (by omega) ?_)
      show ∃ j, j < m ∧ _
      refine ⟨ns.length - (i + 1), by omega, by simp [upd, h0], by simp [upd, h1], by simp [upd, h2], kk, i + 1, by simp [upd, SV.val], by omega, rfl, fun j y hj hy => ?_⟩
      rcases Nat.lt_or_ge j i with h | h
      · exact hno j y h hy
      · have : j = i := by omega
        subst this
        rw [hx] at hy; cases hy
        exact hc
  · refine np_F (by simp [SV.val, upd]; omega) ?_
    have hil : i = ns.length := by omega
    show K (pack _) w1
    exact hk2 w1 (find_end fun j y hj hy => hno j y (by omega) hy) k1

theorem parsed_ok (hn : Named P) {I : NI} (hb : fnP P I.blank 1 = some p_blank) (hnor : fnP P I.normal 1 = some (p_normal I)) {f : FuncId} (hf : fnP P f 2 = some (p_parsed I)) {ns : List (Int × Bs)} (hl : ns.length < 1048576) (hlw : ∀ x ∈ ns, x.2.length < 1048576)
    {w : World} {v : Value} {l : Bs} (hll : l.length < 1048576) {K : Value → World → Prop} (hv : RepN w v ns)
    (hk : ∀ w', Keep [] w w' → K (.tuple #[i64 (((ns.find? (fun x => norm x.2 == norm l)).map (·.1)).getD 0), .bool (ns.find? (fun x => norm x.2 == norm l)).isSome]) w') : In.wp P (.call f) [v, S l] w K := by
  obtain ⟨A, c, rfl, hr⟩ := hv
  refine calls_of_np hn (vs := [.slice (some ⟨A, 0, none⟩) ns.length c, S l]) hf fun η hη => ?_
  have h0 : η 0 = .slice (some ⟨A, 0, none⟩) ns.length c := hη 0 (by simp)
  have h1 : η 1 = S l := hη 1 (by simp)
  refine np_op (vs := [.slice (some ⟨A, 0, none⟩) ns.length c]) (by simp [SV.val, h0]) ⟨_, _, _, rfl, ?_⟩
  show NP.wp P _ _ (upd (upd (upd _ 3 _) 4 _) 5 _) w
  refine np_loop (fun m η w' => η 0 = .slice (some ⟨A, 0, none⟩) ns.length c ∧ η 1 = S l ∧ η 2 = i64 ns.length ∧ Keep [] w w' ∧ ∃ i : Nat, η 5 = i64 i ∧ i ≤ ns.length ∧ m = ns.length - i ∧ ∀ j y, j < i → ns[j]? = some y → (norm y.2 == norm l) = false) ns.length
    ⟨by simp [upd, h0], by simp [upd, h1], by simp [upd, goInt], Keep.refl _ _, 0, by simp [upd, SV.val], by omega, by omega, fun j y hj => by omega⟩ ?_
  rintro m η w1 ⟨h0, h1, h2, k1, i, h5, hi, hm, hno⟩
  refine np_op (vs := [i64 i, i64 ns.length]) (by simp [SV.val, h5, h2]) ⟨.i64, _, _, .bool (decide ((i : Int) < ns.length)), rfl, rfl, ?_⟩
  by_cases hlt : i < ns.length
  · refine np_T (by simp [SV.val, upd]; omega) ?_
    refine np_op (vs := [.slice (some ⟨A, 0, none⟩) ns.length c, i64 i]) (by simp [SV.val, upd, h0, h5]) ⟨_, _, c, .i64, i, rfl, hlt, ?_⟩
    rw [Addr.add_mid, Nat.zero_add]
    refine ⟨⟨_, by simp only [upd]; rfl⟩, ?_⟩
    obtain ⟨x, hx, hrange⟩ := name_at (c := c) (hr.keep k1 (by simp)) hlt
    refine np_op (vs := [.pointer (some ⟨A, i * 2, none⟩)]) (by simp [SV.val, upd, Addr.add]) ⟨A, i * 2, _, rfl, hrange, rfl, ?_⟩
    refine np_op (vs := []) rfl (wp_alloc fun b w2 r2 hb2 k2 => ?_)
    refine ⟨⟨_, by simp only [upd]; rfl⟩, ?_⟩
    refine np_op (vs := [.pointer (some ⟨b, 0, none⟩), .agg [i64 x.1, S x.2].toArray]) (by simp [SV.val, upd, Addr.add]) (wp_store r2 ⟨rfl, by simp [Value.cells, Value.oneCell']⟩ (by simp) fun w3 r3 k3 => ?_)
    have r3' : Row w3 b [i64 x.1, S x.2] := r3
    have kk : Keep [] w w3 := k1.trans (k2.trans k3 (A' := [b]) fun y hy hlt => by simp only [List.mem_singleton] at hy; omega) fun y hy _ => hy
    refine np_op (vs := [.pointer (some ⟨b, 1, none⟩)]) (by simp [SV.val, upd, Addr.add]) (wp_load r3' (v := S x.2) rfl ?_)
    have hxm : x ∈ ns := List.mem_of_getElem? hx
    refine np_op (vs := [S x.2]) (by simp [SV.val, upd]) (normal_ok hn hb hnor (hlw x hxm) fun w4 k4 => ?_)
    refine np_op (vs := [S l]) (by simp [SV.val, upd, h1]) (normal_ok hn hb hnor hll fun w5 k5 => ?_)
    have kk5 := (kk.then k4).then k5
    have r5 := (r3'.keep k4 (by simp)).keep k5 (by simp)
    refine np_op (vs := [S (norm x.2), S (norm l)]) (by simp [SV.val, upd]) (wp_eqS ?_)
    have hfs := find_split (p := fun x : Int × Bs => norm x.2 == norm l) hx hno
    cases hc : norm x.2 == norm l with
    | true =>
      rw [hc] at hfs
      refine np_T (by simp [SV.val, upd]) ?_
      refine np_op (vs := [.pointer (some ⟨b, 0, none⟩)]) (by simp [SV.val, upd, Addr.add]) (wp_load r5 (v := i64 x.1) rfl ?_)
      have := hk w5 kk5
      rw [hfs] at this
      show K (pack _) w5
      exact this
    | false =>
      refine np_F (by simp [SV.val, upd]) ?_
      refine np_op (vs := [i64 i, i64 1]) (by simp [SV.val, upd, h5]) (wp_add (by omega) (by omega) ?_)
      show ∃ j, j < m ∧ _
      refine ⟨ns.length - (i + 1), by omega, by simp [upd, h0], by simp [upd, h1], by simp [upd, h2], kk5, i + 1, by simp [upd, SV.val], by omega, rfl, fun j y hj hy => ?_⟩
      rcases Nat.lt_or_ge j i with h | h
      · exact hno j y h hy
      · have : j = i := by omega
        subst this
        rw [hx] at hy; cases hy
        exact hc
  · refine np_F (by simp [SV.val, upd]; omega) ?_
    have hil : i = ns.length := by omega
    have hnone := find_end (p := fun x : Int × Bs => norm x.2 == norm l) fun j y hj hy => hno j y (by omega) hy
    have := hk w1 k1
    rw [hnone] at this
    show K (pack _) w1
    exact this

end
end Go.Nm

/- The law of a text that is read as a value. -/
namespace Go.Nm
open Go.Lx Go.Nx Go.Km Go.Mx Go.Kb

set_option linter.unusedSimpArgs false
set_option linter.unusedVariables false

def unknownW : Bs := [117, 110, 107, 110, 111, 119, 110]

def p_lawParse (fPlain fImpl fOf fNames fLp : FuncId) : FnP := ⟨.op .lenS [.s 0] 1 <|
  .op (.bin .gtr) [.s 1, .k (.int .i64 2147483647)] 2 <|
  .ite (.s 2)
    (.ret [.k (.bool true)])
    (.nil) <|
  .op (.call fPlain) [.s 0] 3 <|
  .op .not [.s 3] 4 <|
  .ite (.s 4)
    (.ret [.k (.bool true)])
    (.nil) <|
  .op (.call fImpl) [.s 0] 5 <|
  .op (.ex 0) [.s 5] 6 <|
  .op (.ex 1) [.s 5] 7 <|
  .op .toByt [.s 0] 8 <|
  .op (.call fOf) [.s 8] 9 <|
  .op (.ex 0) [.s 9] 10 <|
  .op (.ex 1) [.s 9] 11 <|
  .op (.call fNames) [] 12 <|
  .op (.call fLp) [.s 12, .s 0, .s 6, .s 7] 13 <|
  .ite (.s 13)
    (.op (.call fNames) [] 14 <|
    .set 15 (.s 14) <|
    .nil)
    (.set 15 (.k (.tuple #[])) <|
    .nil) <|
  .ite (.s 13)
    (.set 16 (.s 0) <|
    .nil)
    (.set 16 (.k (.tuple #[])) <|
    .nil) <|
  .ite (.s 13)
    (.set 17 (.s 10) <|
    .nil)
    (.set 17 (.k (.tuple #[])) <|
    .nil) <|
  .ite (.s 13)
    (.set 18 (.s 11) <|
    .nil)
    (.set 18 (.k (.tuple #[])) <|
    .nil) <|
  .ite (.s 13)
    (.op (.call fLp) [.s 15, .s 16, .s 17, .s 18] 19 <|
    .set 20 (.s 19) <|
    .nil)
    (.set 20 (.k (.tuple #[])) <|
    .nil) <|
  .ite (.s 13)
    (.set 21 (.s 20) <|
    .nil)
    (.set 21 (.k (.bool false)) <|
    .nil) <|
  .ret [.s 21], [.direct]⟩

section
variable {P : Program}

theorem np_set {n : Nat} {x : SV} {k : NP} {Q : PostN} {η : Nat → Value} {w : World} {v : Value} (hv : x.val η = v) (h : k.wp P Q (upd η n v) w) : (NP.set n x k).wp P Q η w := by
  subst hv; exact h

theorem wp_toByt {l : Bs} {w : World} {K : Value → World → Prop} (hk : ∀ c w', BytesAt w' ⟨w.heap.size, 0, none⟩ l → RowKit.Below w.heap.size w w' → K (.slice (some ⟨w.heap.size, 0, none⟩) l.length c) w') : In.wp P .toByt [S l] w K := ⟨_, rfl, fun c w' a b => hk c w' a b⟩

theorem plain_ok (hn : Named P) {I : NI} (hb : fnP P I.blank 1 = some p_blank) (hnor : fnP P I.normal 1 = some (p_normal I)) {f : FuncId} (hf : fnP P f 1 = some (p_plain I)) {w : World} {l : Bs} {K : Value → World → Prop} (hlen : l.length < 9223372036854775808)
    (hk1 : ∀ w', l.length ≤ 200 → low l → Keep [] w w' → K (.bool true) w') (hk2 : ∀ w', Keep [] w w' → K (.bool false) w') : In.wp P (.call f) [S l] w K := by
  refine calls_of_np hn (vs := [S l]) hf fun η hη => ?_
  have h0 : η 0 = S l := hη 0 (by simp)
  refine np_op (vs := [S l]) (by simp [SV.val, h0]) (wp_lenS ?_)
  refine np_op (vs := [i64 l.length, i64 200]) (by simp [SV.val, upd]) ⟨.i64, _, _, .bool (decide ((l.length : Int) > 200)), rfl, rfl, ?_⟩
  by_cases hlong : (l.length : Int) > 200
  · refine np_T (by simp [SV.val, upd]; omega) ?_
    refine np_T (by simp [SV.val, upd]; omega) ?_
    refine np_T (by simp [SV.val, upd]; omega) ?_
    refine np_T (by simp [SV.val, upd]; omega) ?_
    refine np_T (by simp [SV.val, upd]) ?_
    show K (pack _) w
    exact hk2 w (Keep.refl _ _)
  refine np_F (by simp [SV.val, upd]; omega) ?_
  refine np_F (by simp [SV.val, upd]; omega) ?_
  refine np_op (vs := [S l]) (by simp [SV.val, upd, h0]) (normal_ok hn hb hnor (by omega) fun w1 k1 => ?_)
  refine np_F (by simp [SV.val, upd]; omega) ?_
  refine np_op (vs := [S (norm l), S unknownW]) (by simp [SV.val, upd]; rfl) (wp_eqS ?_)
  refine np_F (by simp [SV.val, upd]; omega) ?_
  cases hu : (norm l == unknownW) != false with
  | true =>
    refine np_T (by simp [SV.val, upd]) ?_
    show K (pack _) w1
    exact hk2 w1 k1
  | false =>
    refine np_F (by simp [SV.val, upd]) ?_
    show NP.wp P _ _ (upd (upd _ 9 _) 10 _) w1
    refine np_loop (fun m η w' => w' = w1 ∧ η 0 = S l ∧ ∃ i : Nat, η 10 = i64 i ∧ i ≤ l.length ∧ m = l.length - i ∧ low (l.take i)) l.length
      ⟨rfl, by simp [upd, h0], 0, by simp [upd, SV.val], by omega, by omega, by simp [low]⟩ ?_
    rintro m η w1 ⟨rfl, h0, i, h10, hi, hm, hlow⟩
    refine np_op (vs := [S l]) (by simp [SV.val, h0]) (wp_lenS ?_)
    refine np_op (vs := [i64 i, i64 l.length]) (by simp [SV.val, upd, h10]) ⟨.i64, _, _, .bool (decide ((i : Int) < l.length)), rfl, rfl, ?_⟩
    by_cases hlt : i < l.length
    · refine np_T (by simp [SV.val, upd]; omega) ?_
      have hget : (⟨l.toArray⟩ : ByteArray)[i]? = some l[i] := by
        have : (⟨l.toArray⟩ : ByteArray).size = l.length := rfl
        rw [getElem?_pos _ i (by omega)]
        rfl
      refine np_op (vs := [S l, i64 i]) (by simp [SV.val, upd, h0, h10]) ⟨_, .i64, i, l[i], rfl, hget, ?_⟩
      refine np_op (vs := [u8 l[i], .int .u8 127]) (by simp [SV.val, upd]) ⟨.u8, l[i].toNat, 127, .bool (decide ((l[i].toNat : Int) > 127)), rfl, rfl, ?_⟩
      by_cases hb127 : (l[i].toNat : Int) > 127
      · refine np_T (by simp [SV.val, upd]; omega) ?_
        show K (pack _) w1
        exact hk2 w1 k1
      · refine np_F (by simp [SV.val, upd]; omega) ?_
        refine np_op (vs := [i64 i, i64 1]) (by simp [SV.val, upd, h10]) (wp_add (by omega) (by omega) ?_)
        show ∃ j, j < m ∧ _
        refine ⟨l.length - (i + 1), by omega, rfl, by simp [upd, h0], i + 1, by simp [upd, SV.val], by omega, rfl, ?_⟩
        rw [List.take_succ_eq_append_getElem hlt]
        intro b hb
        rcases List.mem_append.1 hb with hb | hb
        · exact hlow b hb
        · rw [List.mem_singleton.1 hb]; omega
    · refine np_F (by simp [SV.val, upd]; omega) ?_
      have hil : i = l.length := by omega
      rw [hil, List.take_length] at hlow
      show K (pack _) w1
      exact hk1 w1 (by omega) hlow k1

theorem lawParsed_ok (hn : Named P) {I : NI} (hb : fnP P I.blank 1 = some p_blank) (hnor : fnP P I.normal 1 = some (p_normal I)) {fp : FuncId} (hp : fnP P fp 2 = some (p_parsed I)) {f : FuncId} (hf : fnP P f 4 = some (p_lawParsed fp))
    {ns : List (Int × Bs)} (hl : ns.length < 1048576) (hlw : ∀ x ∈ ns, x.2.length < 1048576) {w : World} {v : Value} {l : Bs} (hll : l.length < 1048576) {K : Value → World → Prop} (hv : RepN w v ns)
    {n : Int} {ok : Bool} (en : (((ns.find? (fun x => norm x.2 == norm l)).map (·.1)).getD 0) = n) (eo : (ns.find? (fun x => norm x.2 == norm l)).isSome = ok)
    (hk : ∀ w', Keep [] w w' → K (.bool true) w') : In.wp P (.call f) [v, S l, i64 n, .bool ok] w K := by
  refine calls_of_np hn (vs := [v, S l, i64 n, .bool ok]) hf fun η hη => ?_
  have h0 : η 0 = v := hη 0 (by simp)
  have h1 : η 1 = S l := hη 1 (by simp)
  have h2 : η 2 = i64 n := hη 2 (by simp)
  have h3 : η 3 = .bool ok := hη 3 (by simp)
  refine np_op (vs := [v, S l]) (by simp [SV.val, h0, h1]) (parsed_ok hn hb hnor hp hl hlw hll hv fun w1 k1 => ?_)
  rw [en, eo]
  refine np_op (vs := [.tuple #[i64 n, .bool ok]]) (by simp [SV.val, upd]) ⟨_, _, rfl, rfl, ?_⟩
  refine np_op (vs := [.tuple #[i64 n, .bool ok]]) (by simp [SV.val, upd]) ⟨_, _, rfl, rfl, ?_⟩
  refine np_op (vs := [.bool ok, .bool ok]) (by simp [SV.val, upd, h3]) ⟨_, _, rfl, ?_⟩
  refine np_T (by simp [SV.val, upd]) ?_
  refine np_op (vs := [.bool ok]) (by simp [SV.val, upd, h3]) ⟨_, rfl, ?_⟩
  cases hs : ok with
  | false =>
    rw [hs] at h3
    refine np_T (by simp [SV.val, upd]) ?_
    refine np_set (v := .bool true) (by simp [SV.val, upd]) ?_
    refine np_set (v := (.tuple #[])) (by simp [SV.val, upd]) ?_
    refine np_set (v := (.tuple #[])) (by simp [SV.val, upd]) ?_
    refine np_set (v := (.tuple #[])) (by simp [SV.val, upd]) ?_
    refine np_set (v := .bool true) (by simp [SV.val, upd]) ?_
    refine np_set (v := .bool true) (by simp [SV.val, upd]) ?_
    refine np_set (v := .bool true) (by simp [SV.val, upd]) ?_
    show NP.wp P (.set 17 (.k (.bool true)) _) _ _ w1
    refine np_set (v := .bool true) (by simp [SV.val, upd, h3]) ?_
    refine np_set (v := .bool false) (by simp [SV.val, upd, h3]) ?_
    refine np_set (v := .bool true) (by simp [SV.val, upd, h3]) ?_
    refine np_set (v := .bool true) (by simp [SV.val, upd, h3]) ?_
    refine np_set (v := (.tuple #[])) (by simp [SV.val, upd, h3]) ?_
    refine np_set (v := (.tuple #[])) (by simp [SV.val, upd, h3]) ?_
    refine np_set (v := (.tuple #[])) (by simp [SV.val, upd, h3]) ?_
    refine np_set (v := .bool true) (by simp [SV.val, upd, h3]) ?_
    refine np_set (v := .bool true) (by simp [SV.val, upd, h3]) ?_
    refine np_set (v := .bool true) (by simp [SV.val, upd, h3]) ?_
    show K (pack [upd _ 26 (.bool true) 26]) w1
    simpa [pack, upd] using hk w1 k1
  | true =>
    rw [hs] at h3
    refine np_F (by simp [SV.val, upd]) ?_
    refine np_op (vs := [i64 n, i64 n]) (by simp [SV.val, upd, h2]) ⟨.i64, n, n, .bool true, rfl, by simp [binV], ?_⟩
    refine np_set (v := .bool false) (by simp [SV.val, upd, h2]) ?_
    refine np_set (v := i64 n) (by simp [SV.val, upd, h2]) ?_
    refine np_set (v := i64 n) (by simp [SV.val, upd, h2]) ?_
    refine np_set (v := .bool true) (by simp [SV.val, upd, h2]) ?_
    refine np_set (v := .bool true) (by simp [SV.val, upd, h2]) ?_
    refine np_set (v := .bool true) (by simp [SV.val, upd, h2]) ?_
    refine np_set (v := .bool true) (by simp [SV.val, upd, h2]) ?_
    show NP.wp P (.set 17 (.k (.bool true)) _) _ _ w1
    refine np_set (v := .bool true) (by simp [SV.val, upd, h3]) ?_
    refine np_set (v := .bool true) (by simp [SV.val, upd, h3]) ?_
    refine np_set (v := .bool false) (by simp [SV.val, upd, h3]) ?_
    refine np_set (v := .bool false) (by simp [SV.val, upd, h3]) ?_
    refine np_set (v := i64 n) (by simp [SV.val, upd, h3]) ?_
    refine np_set (v := i64 n) (by simp [SV.val, upd, h3]) ?_
    refine np_set (v := .bool true) (by simp [SV.val, upd, h3]) ?_
    refine np_set (v := .bool true) (by simp [SV.val, upd, h3]) ?_
    refine np_set (v := .bool true) (by simp [SV.val, upd, h3]) ?_
    refine np_set (v := .bool true) (by simp [SV.val, upd, h3]) ?_
    show K (pack [upd _ 26 (.bool true) 26]) w1
    simpa [pack, upd] using hk w1 k1

/-- The words as the package has them are the reference's. -/
def wordsOf (ns : List (Int × Bs)) : List (Bs × Int) := ns.map fun x => (norm x.2, x.1)

theorem found_words (ns : List (Int × Bs)) (l : Bs) : found (wordsOf ns) l = (ns.find? (fun x => norm x.2 == norm l)).map (·.1) := by
  unfold found wordsOf
  rw [List.find?_map, Option.map_map]
  rfl

def lpTail (fNames fLp : FuncId) : NP := .op (.call fNames) [] 12 <|
  .op (.call fLp) [.s 12, .s 0, .s 6, .s 7] 13 <|
  .ite (.s 13) (.op (.call fNames) [] 14 <| .set 15 (.s 14) <| .nil) (.set 15 (.k (.tuple #[])) <| .nil) <|
  .ite (.s 13) (.set 16 (.s 0) <| .nil) (.set 16 (.k (.tuple #[])) <| .nil) <|
  .ite (.s 13) (.set 17 (.s 10) <| .nil) (.set 17 (.k (.tuple #[])) <| .nil) <|
  .ite (.s 13) (.set 18 (.s 11) <| .nil) (.set 18 (.k (.tuple #[])) <| .nil) <|
  .ite (.s 13) (.op (.call fLp) [.s 15, .s 16, .s 17, .s 18] 19 <| .set 20 (.s 19) <| .nil) (.set 20 (.k (.tuple #[])) <| .nil) <|
  .ite (.s 13) (.set 21 (.s 20) <| .nil) (.set 21 (.k (.bool false)) <| .nil) <|
  .ret [.s 21]

theorem lp_tail (hn : Named P) {I : NI} (hb : fnP P I.blank 1 = some p_blank) (hnor : fnP P I.normal 1 = some (p_normal I)) {fp fLp fNames : FuncId} (hp : fnP P fp 2 = some (p_parsed I))
    (hlp : fnP P fLp 4 = some (p_lawParsed fp)) {ns : List (Int × Bs)} (hl : ns.length < 1048576) (hlw : ∀ x ∈ ns, x.2.length < 1048576) (hnm : fnP P fNames 0 = some (p_names ns))
    {w : World} {l : Bs} (hll : l.length < 1048576) {η : Nat → Value} {Q : PostN} {n ok : Value} (en : n = i64 (((ns.find? (fun x => norm x.2 == norm l)).map (·.1)).getD 0)) (eo : ok = .bool (ns.find? (fun x => norm x.2 == norm l)).isSome)
    (h0 : η 0 = S l) (h6 : η 6 = n) (h7 : η 7 = ok) (h10 : η 10 = n) (h11 : η 11 = ok)
    (hk : ∀ η' w', Keep [] w w' → Q (.ret [.bool true]) η' w') : (lpTail fNames fLp).wp P Q η w := by
  have call : ∀ w1 v, RepN w1 v ns → ∀ K : Value → World → Prop, (∀ w', Keep [] w1 w' → K (.bool true) w') → In.wp P (.call fLp) [v, S l, n, ok] w1 K := by
    intro w1 v hv K hK
    rw [en, eo]
    exact lawParsed_ok hn hb hnor hp hlp hl hlw hll hv rfl rfl hK
  refine np_op (vs := []) rfl (names_ok hn hnm fun v w1 hv k1 => ?_)
  refine np_op (vs := [v, S l, n, ok]) (by simp [SV.val, upd, h0, h6, h7]) (call w1 v hv _ fun w2 k2 => ?_)
  have kw2 := k1.then k2
  refine np_T (by simp [SV.val, upd]) ?_
  refine np_op (vs := []) rfl (names_ok hn hnm fun v2 w3 hv2 k3 => ?_)
  have kw3 := kw2.then k3
  refine np_T (by simp [SV.val, upd]) ?_
  refine np_T (by simp [SV.val, upd]) ?_
  refine np_T (by simp [SV.val, upd]) ?_
  refine np_T (by simp [SV.val, upd]) ?_
  refine np_op (vs := [v2, S l, n, ok]) (by simp [SV.val, upd, h0, h10, h11]) (call w3 v2 hv2 _ fun w4 k4 => ?_)
  refine np_T (by simp [SV.val, upd]) ?_
  have := hk (upd (upd (upd (upd (upd (upd (upd (upd (upd (upd η 12 v) 13 (.bool true)) 14 v2) 15 v2) 16 (S l)) 17 n) 18 ok) 19 (.bool true)) 20 (.bool true)) 21 (.bool true)) w4 (kw3.then k4)
  simp only [NP.wp]
  simpa [SV.val, upd, h0, h10, h11] using this

theorem lawParse_ok (hn : Named P) {X : World → Prop} (hX : Stays X) {I : NI} (hb : fnP P I.blank 1 = some p_blank) (hnor : fnP P I.normal 1 = some (p_normal I)) {fp fLp fPlain fImpl fOf fNames f : FuncId} (hp : fnP P fp 2 = some (p_parsed I))
    (hlp : fnP P fLp 4 = some (p_lawParsed fp)) (hpl : fnP P fPlain 1 = some (p_plain I)) {ns : List (Int × Bs)} (hl : ns.length < 1048576) (hlw : ∀ x ∈ ns, x.2.length < 1048576) (hnm : fnP P fNames 0 = some (p_names ns))
    (him : TakeOk P X (wordsOf ns) fImpl (fun _ l v => v = S l)) (hof : TakeOk P X (wordsOf ns) fOf (fun w l v => Sl0 w v l)) (hf : fnP P f 1 = some (p_lawParse fPlain fImpl fOf fNames fLp))
    {w : World} {l : Bs} (hlen : l.length < 9223372036854775808) (hx : X w) : In.wp P (.call f) [S l] w fun v w' => v = .bool true ∧ Keep [] w w' := by
  generalize hQ : (fun (v : Value) w' => v = .bool true ∧ Keep [] w w') = Q
  have fin : ∀ w', Keep [] w w' → Q (.bool true) w' := fun w' k => by rw [← hQ]; exact ⟨rfl, k⟩
  clear hQ
  refine calls_of_np hn (vs := [S l]) hf fun η hη => ?_
  have h0 : η 0 = S l := hη 0 (by simp)
  refine np_op (vs := [S l]) (by simp [SV.val, h0]) (wp_lenS ?_)
  refine np_op (vs := [i64 l.length, i64 2147483647]) (by simp [SV.val, upd]) ⟨.i64, _, _, .bool (decide ((l.length : Int) > 2147483647)), rfl, rfl, ?_⟩
  by_cases hlong : (l.length : Int) > 2147483647
  · refine np_T (by simp [SV.val, upd]; omega) ?_
    exact fin w (Keep.refl _ _)
  refine np_F (by simp [SV.val, upd]; omega) ?_
  refine np_op (vs := [S l]) (by simp [SV.val, upd, h0]) (plain_ok hn hb hnor hpl hlen (fun w1 h200 hlow k1 => ?_) fun w1 k1 => ?_)
  · refine np_op (vs := [.bool true]) (by simp [SV.val, upd]) ⟨_, rfl, ?_⟩
    refine np_F (by simp [SV.val, upd]) ?_
    have hfw := found_words ns l
    have hll : l.length < 1048576 := by omega
    obtain ⟨n, en⟩ : ∃ n, n = i64 (((ns.find? (fun x => norm x.2 == norm l)).map (·.1)).getD 0) := ⟨_, rfl⟩
    obtain ⟨ok, eo⟩ : ∃ ok, ok = Value.bool (ns.find? (fun x => norm x.2 == norm l)).isSome := ⟨_, rfl⟩
    have e1 : i64 ((found (wordsOf ns) l).getD 0) = n := by rw [hfw, en]
    have e2 : Value.bool (found (wordsOf ns) l).isSome = ok := by rw [hfw, eo]; cases ns.find? (fun x => norm x.2 == norm l) <;> rfl
    refine np_op (vs := [S l]) (by simp [SV.val, upd, h0]) (him w1 l (S l) _ rfl hlow hll (hX w w1 hx k1) fun w2 k2 => ?_)
    rw [e1, e2]
    have kw2 := k1.then k2
    refine np_op (vs := [.tuple #[n, ok]]) (by simp [SV.val, upd]) ⟨#[n, ok], n, rfl, rfl, ?_⟩
    refine np_op (vs := [.tuple #[n, ok]]) (by simp [SV.val, upd]) ⟨#[n, ok], ok, rfl, rfl, ?_⟩
    refine np_op (vs := [S l]) (by simp [SV.val, upd, h0]) (wp_toByt fun c w3 hby hbel => ?_)
    have kw3 := kw2.then (Keep.of_below hbel)
    have hs0 : Sl0 w3 (.slice (some ⟨w2.heap.size, 0, none⟩) l.length c) l := .inr ⟨_, c, rfl, hby⟩
    generalize Value.slice (some ⟨w2.heap.size, 0, none⟩) l.length c = sv at hs0 ⊢
    refine np_op (vs := [sv]) (by simp [SV.val, upd]) (hof w3 l sv _ hs0 hlow hll (hX w w3 hx kw3) fun w4 k4 => ?_)
    rw [e1, e2]
    have kw4 := kw3.then k4
    refine np_op (vs := [.tuple #[n, ok]]) (by simp [SV.val, upd]) ⟨#[n, ok], n, rfl, rfl, ?_⟩
    refine np_op (vs := [.tuple #[n, ok]]) (by simp [SV.val, upd]) ⟨#[n, ok], ok, rfl, rfl, ?_⟩
    refine lp_tail hn hb hnor hp hlp hl hlw hnm hll en eo (by simp [upd, h0]) (by simp [upd]) (by simp [upd]) (by simp [upd]) (by simp [upd]) fun η' w5 k5 => ?_
    exact fin w5 (kw4.then k5)
  · refine np_op (vs := [.bool false]) (by simp [SV.val, upd]) ⟨_, rfl, ?_⟩
    refine np_T (by simp [SV.val, upd]) ?_
    exact fin w1 k1

end
end Go.Nm

/- The law of a value that is written as its word. -/
namespace Go.Nm
open Go.Lx Go.Nx Go.Km Go.Mx Go.Kb

set_option linter.unusedSimpArgs false
set_option linter.unusedVariables false

/-- A switch over numbers: the word of the one that it is; else another. -/
def stP (other : Bs) : Nat → List (Int × Bs) → NP
  | _, [] => .ret [.k (S other)]
  | n, (v, u) :: r => .op (.bin .eql) [.s 0, .k (.int .i8 v)] n (.ite (.s n) (.ret [.k (S u)]) (stP other (n + 1) r) .nil)

def p_string (other : Bs) (ns : List (Int × Bs)) : FnP := ⟨stP other 1 ns, [.direct]⟩

def p_marshal (fs : FuncId) : FnP := ⟨.op (.call fs) [.s 0] 1 <| .op .toByt [.s 1] 2 <| .ret [.s 2, .k (.nilIface)], [.direct, .direct]⟩

def p_text (e8 : TypeId) (fm : FuncId) : FnP := ⟨.op (.call fm) [.s 0] 1 <|
  .op (.ex 0) [.s 1] 2 <|
  .op (.ex 1) [.s 1] 3 <|
  .draw <|
  .look (.isNil 2 false) [.s 3] 4 <|
  .op (.app e8) [.k (.slice none 0 0), .s 2] 5 <|
  .keep (.isNil 2 false) [.s 3] 4 <|
  .ret [.s 5, .s 4], [.direct, .direct]⟩

def p_implString (fs : FuncId) : FnP := ⟨.op (.call fs) [.s 0] 1 <| .ret [.s 1], [.direct]⟩

def lt3 (fTextOf fParse : FuncId) : NP := .op (.call fParse) [.s 4] 25 <|
  .op (.ex 0) [.s 25] 26 <|
  .op (.ex 1) [.s 25] 27 <|
  .op (.call fTextOf) [.s 8] 28 <|
  .op (.ex 0) [.s 28] 29 <|
  .op (.ex 1) [.s 28] 30 <|
  .ite (.s 27) (.set 31 (.s 30) <| .nil) (.set 31 (.k (.tuple #[])) <| .nil) <|
  .ite (.s 27) (.set 32 (.s 31) <| .nil) (.set 32 (.k (.bool false)) <| .nil) <|
  .ite (.s 32) (.set 33 (.s 26) <| .nil) (.set 33 (.k (.tuple #[])) <| .nil) <|
  .ite (.s 32) (.set 34 (.s 0) <| .nil) (.set 34 (.k (.tuple #[])) <| .nil) <|
  .ite (.s 32) (.op (.cv .i64) [.s 34] 35 <| .set 36 (.s 35) <| .nil) (.set 36 (.k (.tuple #[])) <| .nil) <|
  .ite (.s 32) (.op (.bin .eql) [.s 33, .s 36] 37 <| .set 38 (.s 37) <| .nil) (.set 38 (.k (.tuple #[])) <| .nil) <|
  .ite (.s 32) (.set 39 (.s 38) <| .nil) (.set 39 (.k (.bool false)) <| .nil) <|
  .ite (.s 39) (.set 40 (.s 29) <| .nil) (.set 40 (.k (.tuple #[])) <| .nil) <|
  .ite (.s 39) (.set 41 (.s 0) <| .nil) (.set 41 (.k (.tuple #[])) <| .nil) <|
  .ite (.s 39) (.op (.cv .i64) [.s 41] 42 <| .set 43 (.s 42) <| .nil) (.set 43 (.k (.tuple #[])) <| .nil) <|
  .ite (.s 39) (.op (.bin .eql) [.s 40, .s 43] 44 <| .set 45 (.s 44) <| .nil) (.set 45 (.k (.tuple #[])) <| .nil) <|
  .ite (.s 39) (.set 46 (.s 45) <| .nil) (.set 46 (.k (.bool false)) <| .nil) <|
  .ret [.s 46]

def lt2 (fString fTextOf fParse : FuncId) : NP := .op .not [.s 9] 10 <|
  .ite (.s 10) (.set 11 (.k (.tuple #[])) <| .nil) (.set 11 (.s 0) <| .nil) <|
  .ite (.s 10) (.set 13 (.k (.tuple #[])) <| .nil) (.op (.call fString) [.s 11] 12 <| .set 13 (.s 12) <| .nil) <|
  .ite (.s 10) (.set 14 (.k (.tuple #[])) <| .nil) (.set 14 (.s 4) <| .nil) <|
  .ite (.s 10) (.set 16 (.k (.tuple #[])) <| .nil) (.op (.eqS true) [.s 13, .s 14] 15 <| .set 16 (.s 15) <| .nil) <|
  .ite (.s 10) (.set 17 (.k (.bool true)) <| .nil) (.set 17 (.s 16) <| .nil) <|
  .ite (.s 17) (.set 18 (.k (.tuple #[])) <| .nil) (.set 18 (.s 8) <| .nil) <|
  .ite (.s 17) (.set 20 (.k (.tuple #[])) <| .nil) (.op .toStr [.s 18] 19 <| .set 20 (.s 19) <| .nil) <|
  .ite (.s 17) (.set 21 (.k (.tuple #[])) <| .nil) (.set 21 (.s 4) <| .nil) <|
  .ite (.s 17) (.set 23 (.k (.tuple #[])) <| .nil) (.op (.eqS true) [.s 20, .s 21] 22 <| .set 23 (.s 22) <| .nil) <|
  .ite (.s 17) (.set 24 (.k (.bool true)) <| .nil) (.set 24 (.s 23) <| .nil) <|
  .ite (.s 24) (.ret [.k (.bool false)]) (.nil) <| lt3 fTextOf fParse

def p_lawText (fNames fWord fText fString fTextOf fParse : FuncId) : FnP := ⟨.op (.call fNames) [] 1 <|
  .op (.cv .i64) [.s 0] 2 <|
  .op (.call fWord) [.s 1, .s 2] 3 <|
  .op (.ex 0) [.s 3] 4 <|
  .op (.ex 1) [.s 3] 5 <|
  .op .not [.s 5] 6 <|
  .ite (.s 6)
    (.ret [.k (.bool true)])
    (.nil) <|
  .op (.call fText) [.s 0] 7 <|
  .op (.ex 0) [.s 7] 8 <|
  .op (.ex 1) [.s 7] 9 <| lt2 fString fTextOf fParse, [.direct]⟩

section
variable {P : Program}

theorem st_ok : ∀ (ns : List (Int × Bs)) (n : Nat) {other : Bs} {η : Nat → Value} {w : World} {x : Int} {u : Bs} {Q : PostN}, 1 ≤ n → η 0 = .int .i8 x → (∃ y, ns.find? (fun y => y.1 == x) = some y ∧ y.2 = u) → (∀ η', Q (.ret [S u]) η' w) → (stP other n ns).wp P Q η w := by
  intro ns
  induction ns with
  | nil => intro n other η w x u Q hn h0 hf hk; obtain ⟨y, hy, _⟩ := hf; simp at hy
  | cons a r ih =>
    intro n other η w x u Q hn h0 hf hk
    obtain ⟨v, t⟩ := a
    refine np_op (vs := [.int .i8 x, .int .i8 v]) (by simp [SV.val, h0]) ⟨.i8, x, v, .bool (x == v), rfl, rfl, ?_⟩
    obtain ⟨y, hy, hyu⟩ := hf
    by_cases hc : v = x
    · have hc' : (v == x) = true := by simpa using hc
      rw [List.find?_cons, hc'] at hy
      cases hy
      refine np_T (by simp [SV.val, upd, hc]) ?_
      dsimp only at hyu
      subst hyu
      exact hk _
    · have hc' : (v == x) = false := by simpa using hc
      have hc2 : ¬ x = v := fun e => hc e.symm
      rw [List.find?_cons, hc'] at hy
      refine np_F (by simp [SV.val, upd, hc2]) ?_
      exact ih (n + 1) (by omega) (by unfold upd; rw [if_neg (by omega)]; exact h0) ⟨y, hy, hyu⟩ hk

theorem string_ok (hn : Named P) {other : Bs} {ns : List (Int × Bs)} {f : FuncId} (hf : fnP P f 1 = some (p_string other ns)) {w : World} {x : Int} {u : Bs} {K : Value → World → Prop} (hx : ∃ y, ns.find? (fun y => y.1 == x) = some y ∧ y.2 = u) (hk : K (S u) w) : In.wp P (.call f) [.int .i8 x] w K := by
  refine calls_of_np hn (vs := [.int .i8 x]) hf fun η hη => ?_
  exact st_ok ns 1 (Nat.le_refl _) (hη 0 (by simp)) hx fun η' => hk

theorem marshal_ok (hn : Named P) {other : Bs} {ns : List (Int × Bs)} {fs : FuncId} (hs : fnP P fs 1 = some (p_string other ns)) {f : FuncId} (hf : fnP P f 1 = some (p_marshal fs)) {w : World} {x : Int} {u : Bs} {K : Value → World → Prop} (hx : ∃ y, ns.find? (fun y => y.1 == x) = some y ∧ y.2 = u)
    (hk : ∀ v w', Sl0 w' v u → Keep [] w w' → K (.tuple #[v, .nilIface]) w') : In.wp P (.call f) [.int .i8 x] w K := by
  refine calls_of_np hn (vs := [.int .i8 x]) hf fun η hη => ?_
  have h0 : η 0 = .int .i8 x := hη 0 (by simp)
  refine np_op (vs := [.int .i8 x]) (by simp [SV.val, h0]) (string_ok hn hs hx ?_)
  refine np_op (vs := [S u]) (by simp [SV.val, upd]) (wp_toByt fun c w1 hby hbel => ?_)
  exact hk _ w1 (.inr ⟨_, c, rfl, hby⟩) (Keep.of_below hbel)

theorem text_ok (hn : Named P) {other : Bs} {ns : List (Int × Bs)} {fs fm : FuncId} (hs : fnP P fs 1 = some (p_string other ns)) (hm : fnP P fm 1 = some (p_marshal fs)) {e8 : TypeId} {f : FuncId} (hf : fnP P f 1 = some (p_text e8 fm)) {w : World} {x : Int} {u : Bs} {K : Value → World → Prop} (hx : ∃ y, ns.find? (fun y => y.1 == x) = some y ∧ y.2 = u) (hu : u.length < 1048576)
    (hk : ∀ v w', Sl0 w' v u → Keep [] w w' → K (.tuple #[v, .bool true]) w') : In.wp P (.call f) [.int .i8 x] w K := by
  refine calls_of_np hn (vs := [.int .i8 x]) hf fun η hη => ?_
  have h0 : η 0 = .int .i8 x := hη 0 (by simp)
  refine np_op (vs := [.int .i8 x]) (by simp [SV.val, h0]) (marshal_ok hn hs hm hx fun v w1 hv k1 => ?_)
  refine np_op (vs := [.tuple #[v, .nilIface]]) (by simp [SV.val, upd]) ⟨#[v, .nilIface], v, rfl, rfl, ?_⟩
  refine np_op (vs := [.tuple #[v, .nilIface]]) (by simp [SV.val, upd]) ⟨#[v, .nilIface], .nilIface, rfl, rfl, ?_⟩
  have kd : Keep [] w1 { w1 with drawn := w1.drawn + 1 } := ⟨rfl, rfl, rfl, Nat.le_refl _, fun _ _ _ => rfl⟩
  show NP.wp P _ _ _ { w1 with drawn := w1.drawn + 1 }
  generalize ({ w1 with drawn := w1.drawn + 1 } : World) = w2 at kd ⊢
  have hl : ∀ (Q : Value → World → Prop), Q (.bool true) w2 → In.wp P (.isNil 2 false) [.nilIface] w2 Q := fun Q hq => ⟨_, true, rfl, rfl, hq⟩
  show In.wp P (.isNil 2 false) _ w2 _
  simp only [List.map_cons, List.map_nil, SV.val, upd, if_true]
  refine hl _ ⟨rfl, ?_⟩
  refine np_op (vs := [.slice none 0 0, v]) (by simp [SV.val, upd]) (wp_app (B := w2.heap.size) (out := []) ⟨⟨rfl, .inl ⟨rfl, rfl⟩⟩, Nat.le_refl _⟩ (sl0_keep hv kd) (by simp; unfold lim; omega) fun d w3 o3 k3 => ?_)
  have hs3 := (own_slw o3).sl0
  rw [List.nil_append] at hs3
  refine ⟨?_, ?_⟩
  · simp only [List.map_cons, List.map_nil, SV.val, upd]
    exact ⟨_, true, rfl, rfl, by simp, rfl⟩
  · show K (pack _) w3
    simpa [pack, SV.val, upd] using hk d w3 hs3 ((k1.then kd).then (Keep.of_below k3))

theorem implString_ok (hn : Named P) {other : Bs} {ns : List (Int × Bs)} {fs : FuncId} (hs : fnP P fs 1 = some (p_string other ns)) {f : FuncId} (hf : fnP P f 1 = some (p_implString fs)) {w : World} {x : Int} {u : Bs} {K : Value → World → Prop} (hx : ∃ y, ns.find? (fun y => y.1 == x) = some y ∧ y.2 = u) (hk : K (S u) w) : In.wp P (.call f) [.int .i8 x] w K := by
  refine calls_of_np hn (vs := [.int .i8 x]) hf fun η hη => ?_
  have h0 : η 0 = .int .i8 x := hη 0 (by simp)
  refine np_op (vs := [.int .i8 x]) (by simp [SV.val, h0]) (string_ok hn hs hx ?_)
  exact hk

theorem lt3_ok {X : World → Prop} (hX : Stays X) {ns : List (Int × Bs)} {fTextOf fParse : FuncId} (him : TakeOk P X (wordsOf ns) fParse (fun _ l v => v = S l)) (hof : TakeOk P X (wordsOf ns) fTextOf (fun w l v => Sl0 w v l))
    {w : World} {x : Int} {u : Bs} {v8 : Value} {η : Nat → Value} {Q : PostN} (hlow : low u) (hu : u.length < 1048576) (hfu : found (wordsOf ns) u = some x) (hx : X w) (h0 : η 0 = .int .i8 x) (hxs : -128 ≤ x ∧ x < 128) (h4 : η 4 = S u) (h8 : η 8 = v8) (hv : Sl0 w v8 u)
    (hk : ∀ η' w', Keep [] w w' → Q (.ret [.bool true]) η' w') : (lt3 fTextOf fParse).wp P Q η w := by
  refine np_op (vs := [S u]) (by simp [SV.val, h4]) (him w u (S u) _ rfl hlow hu hx fun w1 k1 => ?_)
  rw [hfu]
  simp only [Option.getD_some, Option.isSome_some]
  refine np_op (vs := [.tuple #[i64 x, .bool true]]) (by simp [SV.val, upd]) ⟨#[i64 x, .bool true], i64 x, rfl, rfl, ?_⟩
  refine np_op (vs := [.tuple #[i64 x, .bool true]]) (by simp [SV.val, upd]) ⟨#[i64 x, .bool true], .bool true, rfl, rfl, ?_⟩
  refine np_op (vs := [v8]) (by simp [SV.val, upd, h8]) (hof w1 u v8 _ (sl0_keep hv k1) hlow hu (hX w w1 hx k1) fun w2 k2 => ?_)
  rw [hfu]
  simp only [Option.getD_some, Option.isSome_some]
  refine np_op (vs := [.tuple #[i64 x, .bool true]]) (by simp [SV.val, upd]) ⟨#[i64 x, .bool true], i64 x, rfl, rfl, ?_⟩
  refine np_op (vs := [.tuple #[i64 x, .bool true]]) (by simp [SV.val, upd]) ⟨#[i64 x, .bool true], .bool true, rfl, rfl, ?_⟩
  refine np_T (by simp [SV.val, upd]) (np_set (v := .bool true) (by simp [SV.val, upd]) ?_)
  refine np_T (by simp [SV.val, upd]) (np_set (v := .bool true) (by simp [SV.val, upd]) ?_)
  refine np_T (by simp [SV.val, upd]) (np_set (v := i64 x) (by simp [SV.val, upd]) ?_)
  refine np_T (by simp [SV.val, upd]) (np_set (v := .int .i8 x) (by simp [SV.val, upd, h0]) ?_)
  refine np_T (by simp [SV.val, upd]) ?_
  refine np_op (vs := [.int .i8 x]) (by simp [SV.val, upd]) ⟨.i8, x, rfl, ?_⟩
  rw [wrap64 (by omega) (by omega)]
  refine np_set (v := i64 x) (by simp [SV.val, upd]) ?_
  refine np_T (by simp [SV.val, upd]) ?_
  refine np_op (vs := [i64 x, i64 x]) (by simp [SV.val, upd]) ⟨.i64, x, x, .bool true, rfl, by simp [binV], ?_⟩
  refine np_set (v := .bool true) (by simp [SV.val, upd]) ?_
  refine np_T (by simp [SV.val, upd]) (np_set (v := .bool true) (by simp [SV.val, upd]) ?_)
  refine np_T (by simp [SV.val, upd]) (np_set (v := i64 x) (by simp [SV.val, upd]) ?_)
  refine np_T (by simp [SV.val, upd]) (np_set (v := .int .i8 x) (by simp [SV.val, upd, h0]) ?_)
  refine np_T (by simp [SV.val, upd]) ?_
  refine np_op (vs := [.int .i8 x]) (by simp [SV.val, upd]) ⟨.i8, x, rfl, ?_⟩
  rw [wrap64 (by omega) (by omega)]
  refine np_set (v := i64 x) (by simp [SV.val, upd]) ?_
  refine np_T (by simp [SV.val, upd]) ?_
  refine np_op (vs := [i64 x, i64 x]) (by simp [SV.val, upd]) ⟨.i64, x, x, .bool true, rfl, by simp [binV], ?_⟩
  refine np_set (v := .bool true) (by simp [SV.val, upd]) ?_
  refine np_T (by simp [SV.val, upd]) (np_set (v := .bool true) (by simp [SV.val, upd]) ?_)
  show Q (.ret [upd _ 46 (.bool true) 46]) _ w2
  simpa [upd] using hk _ w2 (k1.then k2)

theorem lt2_ok (hn : Named P) {X : World → Prop} (hX : Stays X) {other : Bs} {ns : List (Int × Bs)} {fs fString fTextOf fParse : FuncId} (hs : fnP P fs 1 = some (p_string other ns)) (hst : fnP P fString 1 = some (p_implString fs))
    (him : TakeOk P X (wordsOf ns) fParse (fun _ l v => v = S l)) (hof : TakeOk P X (wordsOf ns) fTextOf (fun w l v => Sl0 w v l))
    {w : World} {x : Int} {u : Bs} {v8 : Value} {η : Nat → Value} {Q : PostN} (hxu : ∃ y, ns.find? (fun y => y.1 == x) = some y ∧ y.2 = u) (hlow : low u) (hu : u.length < 1048576) (hfu : found (wordsOf ns) u = some x) (hx : X w) (h0 : η 0 = .int .i8 x) (hxs : -128 ≤ x ∧ x < 128) (h4 : η 4 = S u) (h8 : η 8 = v8) (h9 : η 9 = .bool true) (hv : Sl0 w v8 u)
    (hk : ∀ η' w', Keep [] w w' → Q (.ret [.bool true]) η' w') : (lt2 fString fTextOf fParse).wp P Q η w := by
  refine np_op (vs := [.bool true]) (by simp [SV.val, h9]) ⟨_, rfl, ?_⟩
  refine np_F (by simp [SV.val, upd]) (np_set (v := .int .i8 x) (by simp [SV.val, upd, h0]) ?_)
  refine np_F (by simp [SV.val, upd]) ?_
  refine np_op (vs := [.int .i8 x]) (by simp [SV.val, upd]) (implString_ok hn hs hst hxu ?_)
  refine np_set (v := S u) (by simp [SV.val, upd]) ?_
  refine np_F (by simp [SV.val, upd]) (np_set (v := S u) (by simp [SV.val, upd, h4]) ?_)
  refine np_F (by simp [SV.val, upd]) ?_
  refine np_op (vs := [S u, S u]) (by simp [SV.val, upd]) (wp_eqS ?_)
  refine np_set (v := .bool false) (by simp [SV.val, upd]) ?_
  refine np_F (by simp [SV.val, upd]) (np_set (v := .bool false) (by simp [SV.val, upd]) ?_)
  refine np_F (by simp [SV.val, upd]) (np_set (v := v8) (by simp [SV.val, upd, h8]) ?_)
  refine np_F (by simp [SV.val, upd]) ?_
  refine np_op (vs := [v8]) (by simp [SV.val, upd]) ⟨v8, u, rfl, hv, ?_⟩
  refine np_set (v := S u) (by simp [SV.val, upd]) ?_
  refine np_F (by simp [SV.val, upd]) (np_set (v := S u) (by simp [SV.val, upd, h4]) ?_)
  refine np_F (by simp [SV.val, upd]) ?_
  refine np_op (vs := [S u, S u]) (by simp [SV.val, upd]) (wp_eqS ?_)
  refine np_set (v := .bool false) (by simp [SV.val, upd]) ?_
  refine np_F (by simp [SV.val, upd]) (np_set (v := .bool false) (by simp [SV.val, upd]) ?_)
  refine np_F (by simp [SV.val, upd]) ?_
  exact lt3_ok hX him hof hlow hu hfu hx (by simp [upd, h0]) hxs (by simp [upd, h4]) (by simp [upd, h8]) hv hk

/-- What is asked of a list of names, each word by itself. -/
def goodNames (ns : List (Int × Bs)) : Bool := ns.all fun y => (y.2.all fun b => decide (b.toNat < 128)) && (decide (y.2.length < 1048576) && (found (wordsOf ns) y.2 == some y.1))

theorem lawText_ok (hn : Named P) {X : World → Prop} (hX : Stays X) {other : Bs} {ns : List (Int × Bs)} (hg : goodNames ns = true) (hl : ns.length < 1048576) {e8 : TypeId} {fs fm fNames fWord fText fString fTextOf fParse f : FuncId} (hs : fnP P fs 1 = some (p_string other ns)) (hm : fnP P fm 1 = some (p_marshal fs))
    (hnm : fnP P fNames 0 = some (p_names ns)) (hwd : fnP P fWord 2 = some p_word) (htx : fnP P fText 1 = some (p_text e8 fm)) (hst : fnP P fString 1 = some (p_implString fs))
    (him : TakeOk P X (wordsOf ns) fParse (fun _ l v => v = S l)) (hof : TakeOk P X (wordsOf ns) fTextOf (fun w l v => Sl0 w v l)) (hf : fnP P f 1 = some (p_lawText fNames fWord fText fString fTextOf fParse))
    {w : World} {x : Int} (hxs : -128 ≤ x ∧ x < 128) (hx : X w) : In.wp P (.call f) [.int .i8 x] w fun v w' => v = .bool true ∧ Keep [] w w' := by
  generalize hQ : (fun (v : Value) w' => v = .bool true ∧ Keep [] w w') = Q
  have fin : ∀ w', Keep [] w w' → Q (.bool true) w' := fun w' k => by rw [← hQ]; exact ⟨rfl, k⟩
  clear hQ
  refine calls_of_np hn (vs := [.int .i8 x]) hf fun η hη => ?_
  have h0 : η 0 = .int .i8 x := hη 0 (by simp)
  refine np_op (vs := []) rfl (names_ok hn hnm fun v w1 hv k1 => ?_)
  refine np_op (vs := [.int .i8 x]) (by simp [SV.val, upd, h0]) ⟨.i8, x, rfl, ?_⟩
  rw [wrap64 (by omega) (by omega)]
  refine np_op (vs := [v, i64 x]) (by simp [SV.val, upd]) (word_ok hn hwd hl hv (fun y w2 hy k2 => ?_) fun w2 hno k2 => ?_)
  · obtain ⟨u, hyu⟩ : ∃ u, y.2 = u := ⟨_, rfl⟩
    have hym := List.mem_of_find?_eq_some hy
    have hyx : y.1 = x := by have := List.find?_some hy; simpa using this
    have hgy := (List.all_eq_true.1 hg) y hym
    simp only [Bool.and_eq_true, decide_eq_true_eq, beq_iff_eq, List.all_eq_true] at hgy
    rw [hyu, hyx] at hgy
    rw [hyu]
    have kw2 := k1.then k2
    refine np_op (vs := [.tuple #[S u, .bool true]]) (by simp [SV.val, upd]) ⟨#[S u, .bool true], S u, rfl, rfl, ?_⟩
    refine np_op (vs := [.tuple #[S u, .bool true]]) (by simp [SV.val, upd]) ⟨#[S u, .bool true], .bool true, rfl, rfl, ?_⟩
    refine np_op (vs := [.bool true]) (by simp [SV.val, upd]) ⟨_, rfl, ?_⟩
    refine np_F (by simp [SV.val, upd]) ?_
    refine np_op (vs := [.int .i8 x]) (by simp [SV.val, upd, h0]) (text_ok hn hs hm htx ⟨y, hy, hyu⟩ hgy.2.1 fun v8 w3 hv8 k3 => ?_)
    have kw3 := kw2.then k3
    refine np_op (vs := [.tuple #[v8, .bool true]]) (by simp [SV.val, upd]) ⟨#[v8, .bool true], v8, rfl, rfl, ?_⟩
    refine np_op (vs := [.tuple #[v8, .bool true]]) (by simp [SV.val, upd]) ⟨#[v8, .bool true], .bool true, rfl, rfl, ?_⟩
    refine lt2_ok hn hX hs hst him hof ⟨y, hy, hyu⟩ hgy.1 hgy.2.1 hgy.2.2 (hX w w3 hx kw3) (by simp [upd, h0]) hxs (by simp [upd]) (by simp [upd]) (by simp [upd]) hv8 fun η' w4 k4 => ?_
    exact fin w4 (kw3.then k4)
  · refine np_op (vs := [.tuple #[S [], .bool false]]) (by simp [SV.val, upd]) ⟨#[S [], .bool false], S [], rfl, rfl, ?_⟩
    refine np_op (vs := [.tuple #[S [], .bool false]]) (by simp [SV.val, upd]) ⟨#[S [], .bool false], .bool false, rfl, rfl, ?_⟩
    refine np_op (vs := [.bool false]) (by simp [SV.val, upd]) ⟨_, rfl, ?_⟩
    refine np_T (by simp [SV.val, upd]) ?_
    exact fin w2 (k1.then k2)

end
end Go.Nm
