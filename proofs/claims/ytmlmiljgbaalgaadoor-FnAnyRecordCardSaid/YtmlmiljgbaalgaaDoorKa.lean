/- Messages in memory: rows, what stays as it was, slices of bytes, the reader's state, a primitive's value. -/
import Derived.Test.YtmlmiljgbaalgaaDoorNx
import Derived.Test.YtmlmiljgbaalgaaDoorKm
set_option linter.unusedSimpArgs false
set_option linter.unusedVariables false
namespace Go.Mx
open Go.Lx Go.Nx Go.Km

/-- A block's cells, none of them frozen. -/
def Row (w : World) (b : Nat) (cs : List Value) : Prop := ∃ e, w.heap[b]? = some (.cells cs.toArray e (0, 0))

theorem Row.lt {w : World} {b : Nat} {cs : List Value} (h : Row w b cs) : b < w.heap.size := by
  obtain ⟨e, h⟩ := h
  exact (Array.getElem?_eq_some_iff.1 h).1

theorem Row.inj {w : World} {b : Nat} {cs ds : List Value} (h : Row w b cs) (k : Row w b ds) : cs = ds := by
  obtain ⟨e, h⟩ := h
  obtain ⟨e', k⟩ := k
  rw [h] at k
  simp only [Option.some.injEq, Obj.cells.injEq] at k
  simpa using congrArg Array.toList k.1

theorem Row.cell {w : World} {b : Nat} {cs : List Value} (h : Row w b cs) {o : Nat} {v : Value} (hv : cs[o]? = some v) : w.cell? ⟨b, o, none⟩ = some v := by
  obtain ⟨e, h⟩ := h
  simp only [World.cell?, h]
  simpa using hv

theorem Row.range {w : World} {b : Nat} {cs : List Value} (h : Row w b cs) (o n : Nat) : w.rangeAt b o ((cs.drop o).take n) := by
  intro j v hj
  refine h.cell ?_
  rw [List.getElem?_take] at hj
  split at hj
  · simpa [List.getElem?_drop] using hj
  · cases hj

/-- All but some blocks is as it was. -/
structure Keep (A : List Nat) (w w' : World) : Prop where
  os : w'.os = w.os
  tape : w'.tape = w.tape
  output : w'.output = w.output
  size : w.heap.size ≤ w'.heap.size
  block : ∀ k, k < w.heap.size → k ∉ A → w'.heap[k]? = w.heap[k]?

theorem Keep.refl (A : List Nat) (w : World) : Keep A w w := ⟨rfl, rfl, rfl, Nat.le_refl _, fun _ _ _ => rfl⟩

theorem Keep.trans {A A' : List Nat} {a b c : World} (h : Keep A a b) (k : Keep A' b c) (hA : ∀ x ∈ A', x < a.heap.size → x ∈ A) : Keep A a c :=
  ⟨k.os.trans h.os, k.tape.trans h.tape, k.output.trans h.output, Nat.le_trans h.size k.size, fun i hi hn =>
    (k.block i (Nat.lt_of_lt_of_le hi h.size) (fun hm => hn (hA i hm hi))).trans (h.block i hi hn)⟩

theorem Keep.then {A : List Nat} {a b c : World} (h : Keep A a b) (k : Keep A b c) : Keep A a c := h.trans k fun _ h _ => h

theorem Keep.mono {A A' : List Nat} {a b : World} (h : Keep A a b) (hA : ∀ x ∈ A, x < a.heap.size → x ∈ A') : Keep A' a b :=
  ⟨h.os, h.tape, h.output, h.size, fun i hi hn => h.block i hi fun hm => hn (hA i hm hi)⟩

theorem Row.keep {w w' : World} {b : Nat} {cs : List Value} {A : List Nat} (h : Row w b cs) (k : Keep A w w') (hb : b ∉ A) : Row w' b cs := by
  have hlt := h.lt
  obtain ⟨e, h⟩ := h
  exact ⟨e, by rw [k.block b hlt hb]; exact h⟩

theorem Keep.below {w w' : World} {B : Nat} {A : List Nat} (h : Keep A w w') (hA : ∀ x ∈ A, B ≤ x) (hB : B ≤ w.heap.size) : RowKit.Below B w w' :=
  ⟨h.os, h.tape, h.output, h.size, fun k hk => h.block k (by omega) fun hm => by have := hA k hm; omega⟩

theorem Keep.of_below {w w' : World} (h : RowKit.Below w.heap.size w w') : Keep [] w w' := ⟨h.os, h.tape, h.output, h.size, fun k hk _ => h.block k hk⟩

/-- Cells put into others. -/
def put (cs : List Value) (o : Nat) (vs : List Value) : List Value := cs.take o ++ vs ++ cs.drop (o + vs.length)

theorem put_length (cs : List Value) (o : Nat) (vs : List Value) (h : o + vs.length ≤ cs.length) : (put cs o vs).length = cs.length := by simp [put]; omega

theorem put_in (cs : List Value) (o : Nat) (vs : List Value) (h : o + vs.length ≤ cs.length) (j : Nat) (hj : j < vs.length) : (put cs o vs)[o + j]? = vs[j]? := by
  unfold put
  rw [List.append_assoc, List.getElem?_append_right (by simp; omega)]
  have : o + j - (cs.take o).length = j := by simp; omega
  rw [this, List.getElem?_append_left hj]

theorem put_out (cs : List Value) (o : Nat) (vs : List Value) (h : o + vs.length ≤ cs.length) (j : Nat) (hj : j < o ∨ o + vs.length ≤ j) : (put cs o vs)[j]? = cs[j]? := by
  unfold put
  rcases hj with hj | hj
  · rw [List.append_assoc, List.getElem?_append_left (by simp; omega), List.getElem?_take, if_pos hj]
  · rw [List.getElem?_append_right (by simp; omega), List.getElem?_drop]
    congr 1
    simp; omega

/-- A value that fits so many cells. -/
def Fit (n : Nat) (v : Value) : Prop := v.cells.size = n ∧ v.cells.all (·.oneCell') = true

theorem Fit.one {v : Value} (h : v.cells = #[v]) (h1 : v.oneCell' = true) : Fit 1 v := ⟨by rw [h]; rfl, by rw [h]; simpa using h1⟩

section
variable {P : Program} {K : Value → World → Prop} {w : World}

theorem wp_load {b o : Nat} {cs : List Value} {v : Value} (h : Row w b cs) (hv : cs[o]? = some v) (hk : K v w) : In.wp P .load [.pointer (some ⟨b, o, none⟩)] w K :=
  ⟨_, v, rfl, h.cell hv, hk⟩

theorem wp_loadN {b o n : Nat} {cs : List Value} (h : Row w b cs) (hn : o + n ≤ cs.length) (hk : K (.agg ((cs.drop o).take n).toArray) w) : In.wp P (.loadN n) [.pointer (some ⟨b, o, none⟩)] w K :=
  ⟨b, o, _, rfl, h.range o n, by simp; omega, hk⟩

theorem setRow_row {b : Nat} {cs ds : List Value} (h : Row w b cs) : Row (w.setRow b ds.toArray) b ds ∧ Keep [b] w (w.setRow b ds.toArray) := by
  obtain ⟨e, h⟩ := h
  refine ⟨⟨e, setRow_heap w b _ _ e (0, 0) h⟩, rfl, rfl, rfl, by simp [World.setRow], fun k _ hk => setRow_other w b k _ (by simpa using hk)⟩

theorem wp_store {b o n : Nat} {cs : List Value} {v : Value} (h : Row w b cs) (hf : Fit n v) (ho : o + n ≤ cs.length)
    (hk : ∀ w', Row w' b (put cs o v.cells.toList) → Keep [b] w w' → K undef w') : In.wp P (.store n) [.pointer (some ⟨b, o, none⟩), v] w K := by
  obtain ⟨hn, h1⟩ := hf
  have hr := setRow_row (ds := put cs o v.cells.toList) h
  obtain ⟨e, h⟩ := h
  refine ⟨b, o, cs, e, v, rfl, h, hn, h1, ho, ?_⟩
  have e1 : cs.take o ++ v.cells.toList ++ cs.drop (o + n) = put cs o v.cells.toList := by unfold put; rw [show v.cells.toList.length = n by simpa using hn]
  rw [e1]
  exact hk _ hr.1 hr.2

theorem alloc_row (cs : List Value) (e : TypeId) : Row (w.alloc (.cells cs.toArray e)) w.heap.size cs ∧ Keep [] w (w.alloc (.cells cs.toArray e)) :=
  ⟨⟨e, heap_alloc_new w _⟩, rfl, rfl, rfl, by simp, fun k hk _ => heap_alloc_old w _ k hk⟩

theorem wp_alloc {z : List Value} (hk : ∀ b w', Row w' b z → w.heap.size ≤ b → Keep [] w w' → K (.pointer (some ⟨b, 0, none⟩)) w') : In.wp P (.alloc z) [] w K := by
  intro e
  obtain ⟨h1, h2⟩ := alloc_row (w := w) z e
  exact hk _ _ h1 (Nat.le_refl _) h2
end

/-! Slices of bytes. -/
def BytesIn (ok : Nat → Prop) (w : World) (a : Addr) (bs : Bs) : Prop := a.block < w.heap.size ∧ ok a.block ∧ BytesAt w a bs

/-- A slice of bytes of settled blocks. -/
def Sl (ok : Nat → Prop) (w : World) (v : Value) (bs : Bs) : Prop := (v = .slice none 0 0 ∧ bs = []) ∨ ∃ a c, v = .slice (some a) bs.length c ∧ bs.length ≤ c ∧ BytesIn ok w a bs

theorem Sl.sl0 {ok : Nat → Prop} {w : World} {v : Value} {bs : Bs} (h : Sl ok w v bs) : Sl0 w v bs := by
  rcases h with h | ⟨a, c, h1, _, _, _, h2⟩
  · exact .inl h
  · exact .inr ⟨a, c, h1, h2⟩

/-- Settled blocks are as they were. -/
def Same (ok : Nat → Prop) (w w' : World) : Prop := w.heap.size ≤ w'.heap.size ∧ ∀ k, k < w.heap.size → ok k → w'.heap[k]? = w.heap[k]?

theorem Keep.same {A : List Nat} {w w' : World} {ok : Nat → Prop} (h : Keep A w w') (hA : ∀ x ∈ A, ¬ ok x) : Same ok w w' := ⟨h.size, fun k hk ho => h.block k hk fun hm => hA k hm ho⟩
theorem Same.refl (ok : Nat → Prop) (w : World) : Same ok w w := ⟨Nat.le_refl _, fun _ _ _ => rfl⟩
theorem Same.trans {ok : Nat → Prop} {a b c : World} (h : Same ok a b) (k : Same ok b c) : Same ok a c := ⟨Nat.le_trans h.1 k.1, fun i hi ho => (k.2 i (Nat.lt_of_lt_of_le hi h.1) ho).trans (h.2 i hi ho)⟩
theorem Same.below {B : Nat} {w w' : World} {ok : Nat → Prop} (h : RowKit.Below B w w') (ho : ∀ k, ok k → k < B) : Same ok w w' := ⟨h.size, fun k _ hk => h.block k (ho k hk)⟩

theorem BytesIn.same {ok : Nat → Prop} {w w' : World} {a : Addr} {bs : Bs} (h : BytesIn ok w a bs) (k : Same ok w w') : BytesIn ok w' a bs :=
  ⟨Nat.lt_of_lt_of_le h.1 k.1, h.2.1, fun j hj => by
    rw [World.cell?_of_block (w := w) (w' := w') (by rw [show (a.add j).block = a.block by unfold Addr.add; split <;> rfl]; exact k.2 _ h.1 h.2.1)]; exact h.2.2 j hj⟩

theorem Sl.same {ok : Nat → Prop} {w w' : World} {v : Value} {bs : Bs} (h : Sl ok w v bs) (k : Same ok w w') : Sl ok w' v bs := by
  rcases h with h | ⟨a, c, h1, h2, h3⟩
  · exact .inl h
  · exact .inr ⟨a, c, h1, h2, h3.same k⟩

theorem Sl.weak {ok ok' : Nat → Prop} {w : World} {v : Value} {bs : Bs} (h : Sl ok w v bs) (k : ∀ b, b < w.heap.size → ok b → ok' b) : Sl ok' w v bs := by
  rcases h with h | ⟨a, c, h1, h2, h3, h4, h5⟩
  · exact .inl h
  · exact .inr ⟨a, c, h1, h2, h3, k _ h3 h4, h5⟩

theorem add_block (a : Addr) (n : Nat) : (a.add n).block = a.block := by unfold Addr.add; split <;> rfl

theorem BytesIn.drop {ok : Nat → Prop} {w : World} {a : Addr} {bs : Bs} (h : BytesIn ok w a bs) (n : Nat) : BytesIn ok w (a.add n) (bs.drop n) := by
  refine ⟨by rw [add_block]; exact h.1, by rw [add_block]; exact h.2.1, fun j hj => ?_⟩
  rw [add_add']
  simp only [List.length_drop] at hj
  rw [h.2.2 (n + j) (by omega)]
  simp

theorem BytesIn.take {ok : Nat → Prop} {w : World} {a : Addr} {bs : Bs} (h : BytesIn ok w a bs) (n : Nat) : BytesIn ok w a (bs.take n) := by
  refine ⟨h.1, h.2.1, fun j hj => ?_⟩
  simp only [List.length_take] at hj
  rw [h.2.2 j (by omega)]
  simp

/-- An empty stretch anywhere in the same block. -/
theorem BytesIn.nil {ok : Nat → Prop} {w : World} {a : Addr} {bs : Bs} (h : BytesIn ok w a bs) : BytesIn ok w a [] := ⟨h.1, h.2.1, fun j hj => by simp at hj⟩

/-! The reader. -/
/-- Its block holds what is left, or that too little was there. -/
def Rd (ok : Nat → Prop) (w : World) (R : Nat) (nn : Bool) : Option Bs → Prop
  | some bs => ∃ v, Row w R [v, .bool false] ∧ Sl ok w v bs ∧ (nn = true → v ≠ .slice none 0 0)
  | none => Row w R [.slice none 0 0, .bool true]

theorem Rd.keep {ok : Nat → Prop} {w w' : World} {R : Nat} {nn : Bool} {s : Option Bs} (h : Rd ok w R nn s) {A : List Nat} (k : Keep A w w') (hR : R ∉ A) (hA : ∀ x ∈ A, ¬ ok x) : Rd ok w' R nn s := by
  cases s with
  | none => exact Row.keep h k hR
  | some bs =>
    obtain ⟨v, h1, h2, h3⟩ := h
    exact ⟨v, h1.keep k hR, h2.same (k.same hA), h3⟩

theorem Rd.weak {ok ok' : Nat → Prop} {w : World} {R : Nat} {nn : Bool} {s : Option Bs} (h : Rd ok w R nn s) (k : ∀ b, b < w.heap.size → ok b → ok' b) : Rd ok' w R nn s := by
  cases s with
  | none => exact h
  | some bs =>
    obtain ⟨v, h1, h2, h3⟩ := h
    exact ⟨v, h1, h2.weak k, h3⟩

/-! Primitive values. -/
def kindOfP : Prim → Option IntKind
  | .i8 => some .i8 | .i16 => some .i16 | .u16 => some .u16 | .i32 => some .i32 | .i64 => some .i64
  | _ => none

def RepP (ok : Nat → Prop) (w : World) : Prim → PV → Value → Prop
  | .bool, .b x, v => v = .bool x
  | .i8, .i n, v => v = .int .i8 n
  | .i16, .i n, v => v = .int .i16 n
  | .u16, .i n, v => v = .int .u16 n
  | .i32, .i n, v => v = .int .i32 n
  | .i64, .i n, v => v = .int .i64 n
  | .uuid, .by l, v => v = .agg (l.map u8).toArray ∧ l.length = 16
  | .str _, .by l, v => v = .string ⟨l.toArray⟩
  | .nstr _, .o none, v => v = .pointer none
  | .nstr _, .o (some l), v => ∃ b, v = .pointer (some ⟨b, 0, none⟩) ∧ ok b ∧ Row w b [.string ⟨l.toArray⟩]
  | .byt _, .by l, v => Sl ok w v l
  | .nbyt _, .o none, v => v = .slice none 0 0
  | .nbyt _, .o (some l), v => Sl ok w v l ∧ v ≠ .slice none 0 0
  | _, _, _ => False

/-- How many cells it takes. -/
def width : Prim → Nat
  | .uuid => 16
  | _ => 1

theorem Sl.fit {ok : Nat → Prop} {w : World} {v : Value} {bs : Bs} (h : Sl ok w v bs) : Fit 1 v := by
  rcases h with ⟨rfl, _⟩ | ⟨a, c, rfl, _⟩ <;> exact Fit.one rfl rfl

theorem RepP.fit {ok : Nat → Prop} {w : World} {p : Prim} {x : PV} {v : Value} (h : RepP ok w p x v) : Fit (width p) v := by
  unfold RepP at h
  split at h
  all_goals first
    | (subst h; exact Fit.one rfl rfl)
    | exact Sl.fit h
    | exact Sl.fit h.1
    | (obtain ⟨h1, h2⟩ := h; subst h1; exact ⟨by simp [Value.cells, width, h2], by simp [Value.cells, u8, Value.oneCell']⟩)
    | (obtain ⟨b, h1, _⟩ := h; subst h1; exact Fit.one rfl rfl)
    | exact h.elim

theorem RepP.same {ok : Nat → Prop} {w w' : World} {p : Prim} {x : PV} {v : Value} (h : RepP ok w p x v) (k : Same ok w w') : RepP ok w' p x v := by
  unfold RepP at h ⊢
  split at h
  all_goals first
    | exact h
    | exact Sl.same h k
    | exact ⟨Sl.same h.1 k, h.2⟩
    | (obtain ⟨b, h1, h2, h3⟩ := h
       have hlt := h3.lt
       obtain ⟨e, h3⟩ := h3
       exact ⟨b, h1, h2, e, by rw [k.2 b hlt h2]; exact h3⟩)

theorem RepP.weak {ok ok' : Nat → Prop} {w : World} {p : Prim} {x : PV} {v : Value} (h : RepP ok w p x v) (k : ∀ b, b < w.heap.size → ok b → ok' b) : RepP ok' w p x v := by
  unfold RepP at h ⊢
  split at h
  all_goals first
    | exact h
    | exact Sl.weak h k
    | exact ⟨Sl.weak h.1 k, h.2⟩
    | (obtain ⟨b, h1, h2, h3⟩ := h
       exact ⟨b, h1, k b h3.lt h2, h3⟩)

end Go.Mx

/- The programs of kbin's functions, as they are met in each seat; the numbers that differ stand in a record. -/
namespace Go.Kb
open Go.Lx Go.Nx

structure Ids where
  e8 : TypeId
  lens : ByteArray
  tab8 : ByteArray
  err : Nat
  appendBytes : FuncId
  appendCompactBytes : FuncId
  appendCompactString : FuncId
  appendInt16 : FuncId
  appendInt32 : FuncId
  appendString : FuncId
  appendUint16 : FuncId
  appendUint32 : FuncId
  appendUint64 : FuncId
  appendUvarint : FuncId
  len32 : FuncId
  rInt16 : FuncId
  rInt32 : FuncId
  rSpan : FuncId
  rUvarint : FuncId
  rreadUint64 : FuncId
  unsafeString : FuncId
  uvarint : FuncId
  uvarintLen : FuncId

/- pub-kmsg/pub/kmsg/inner/kbin.AppendInt16 -/
def p_appendInt16 (I : Ids) : FnP := ⟨.op (.cv .u16) [.s 1] 2 <|
  .op (.call I.appendUint16) [.s 0, .s 2] 3 <|
  .ret [.s 3], [.direct]⟩

/- pub-kmsg/pub/kmsg/inner/kbin.AppendArrayLen -/
def p_appendArrayLen (I : Ids) : FnP := ⟨.op (.cv .i32) [.s 1] 2 <|
  .op (.call I.appendInt32) [.s 0, .s 2] 3 <|
  .ret [.s 3], [.direct]⟩

/- pub-kmsg/pub/kmsg/inner/kbin.AppendString -/
def p_appendString (I : Ids) : FnP := ⟨.op .lenS [.s 1] 2 <|
  .op (.cv .i16) [.s 2] 3 <|
  .op (.call I.appendInt16) [.s 0, .s 3] 4 <|
  .op (.appS I.e8) [.s 4, .s 1] 5 <|
  .ret [.s 5], [.direct]⟩

/- pub-kmsg/pub/kmsg/inner/kbin.AppendInt32 -/
def p_appendInt32 (I : Ids) : FnP := ⟨.op (.cv .u32) [.s 1] 2 <|
  .op (.call I.appendUint32) [.s 0, .s 2] 3 <|
  .ret [.s 3], [.direct]⟩

/- pub-kmsg/pub/kmsg/inner/kbin.AppendNullableBytes -/
def p_appendNullableBytes (I : Ids) : FnP := ⟨.op (.isNil 1 false) [.s 1] 2 <|
  .ite (.s 2)
    (.op (.call I.appendInt32) [.s 0, .k (.int .i32 (-1))] 3 <|
    .ret [.s 3])
    (.nil) <|
  .op (.call I.appendBytes) [.s 0, .s 1] 4 <|
  .ret [.s 4], [.direct]⟩

/- pub-kmsg/pub/kmsg/inner/kbin.AppendUvarint -/
def p_appendUvarint (I : Ids) : FnP := ⟨.op (.call I.uvarintLen) [.s 1] 2 <|
  .op (.bin .eql) [.s 2, .k (.int .i64 5)] 3 <|
  .ite (.s 3)
    (.op (.bin .and) [.s 1, .k (.int .u32 127)] 4 <|
    .op (.bin .or) [.s 4, .k (.int .u32 128)] 5 <|
    .op (.cv .u8) [.s 5] 6 <|
    .op (.sh .shr) [.s 1, .k (.int .u64 7)] 7 <|
    .op (.bin .and) [.s 7, .k (.int .u32 127)] 8 <|
    .op (.bin .or) [.s 8, .k (.int .u32 128)] 9 <|
    .op (.cv .u8) [.s 9] 10 <|
    .op (.sh .shr) [.s 1, .k (.int .u64 14)] 11 <|
    .op (.bin .and) [.s 11, .k (.int .u32 127)] 12 <|
    .op (.bin .or) [.s 12, .k (.int .u32 128)] 13 <|
    .op (.cv .u8) [.s 13] 14 <|
    .op (.sh .shr) [.s 1, .k (.int .u64 21)] 15 <|
    .op (.bin .and) [.s 15, .k (.int .u32 127)] 16 <|
    .op (.bin .or) [.s 16, .k (.int .u32 128)] 17 <|
    .op (.cv .u8) [.s 17] 18 <|
    .op (.sh .shr) [.s 1, .k (.int .u64 28)] 19 <|
    .op (.cv .u8) [.s 19] 20 <|
    .op (.bsl I.e8) [.s 6, .s 10, .s 14, .s 18, .s 20] 21 <|
    .op (.app I.e8) [.s 0, .s 21] 22 <|
    .ret [.s 22])
    (.op (.bin .eql) [.s 2, .k (.int .i64 4)] 23 <|
    .ite (.s 23)
      (.op (.bin .and) [.s 1, .k (.int .u32 127)] 24 <|
      .op (.bin .or) [.s 24, .k (.int .u32 128)] 25 <|
      .op (.cv .u8) [.s 25] 26 <|
      .op (.sh .shr) [.s 1, .k (.int .u64 7)] 27 <|
      .op (.bin .and) [.s 27, .k (.int .u32 127)] 28 <|
      .op (.bin .or) [.s 28, .k (.int .u32 128)] 29 <|
      .op (.cv .u8) [.s 29] 30 <|
      .op (.sh .shr) [.s 1, .k (.int .u64 14)] 31 <|
      .op (.bin .and) [.s 31, .k (.int .u32 127)] 32 <|
      .op (.bin .or) [.s 32, .k (.int .u32 128)] 33 <|
      .op (.cv .u8) [.s 33] 34 <|
      .op (.sh .shr) [.s 1, .k (.int .u64 21)] 35 <|
      .op (.cv .u8) [.s 35] 36 <|
      .op (.bsl I.e8) [.s 26, .s 30, .s 34, .s 36] 37 <|
      .op (.app I.e8) [.s 0, .s 37] 38 <|
      .ret [.s 38])
      (.op (.bin .eql) [.s 2, .k (.int .i64 3)] 39 <|
      .ite (.s 39)
        (.op (.bin .and) [.s 1, .k (.int .u32 127)] 40 <|
        .op (.bin .or) [.s 40, .k (.int .u32 128)] 41 <|
        .op (.cv .u8) [.s 41] 42 <|
        .op (.sh .shr) [.s 1, .k (.int .u64 7)] 43 <|
        .op (.bin .and) [.s 43, .k (.int .u32 127)] 44 <|
        .op (.bin .or) [.s 44, .k (.int .u32 128)] 45 <|
        .op (.cv .u8) [.s 45] 46 <|
        .op (.sh .shr) [.s 1, .k (.int .u64 14)] 47 <|
        .op (.cv .u8) [.s 47] 48 <|
        .op (.bsl I.e8) [.s 42, .s 46, .s 48] 49 <|
        .op (.app I.e8) [.s 0, .s 49] 50 <|
        .ret [.s 50])
        (.op (.bin .eql) [.s 2, .k (.int .i64 2)] 51 <|
        .ite (.s 51)
          (.op (.bin .and) [.s 1, .k (.int .u32 127)] 52 <|
          .op (.bin .or) [.s 52, .k (.int .u32 128)] 53 <|
          .op (.cv .u8) [.s 53] 54 <|
          .op (.sh .shr) [.s 1, .k (.int .u64 7)] 55 <|
          .op (.cv .u8) [.s 55] 56 <|
          .op (.bsl I.e8) [.s 54, .s 56] 57 <|
          .op (.app I.e8) [.s 0, .s 57] 58 <|
          .ret [.s 58])
          (.op (.bin .eql) [.s 2, .k (.int .i64 1)] 59 <|
          .ite (.s 59)
            (.op (.cv .u8) [.s 1] 60 <|
            .op (.bsl I.e8) [.s 60] 61 <|
            .op (.app I.e8) [.s 0, .s 61] 62 <|
            .ret [.s 62])
            (.nil) <|
          .nil) <|
        .nil) <|
      .nil) <|
    .nil) <|
  .ret [.s 0], [.direct]⟩

/- pub-kmsg/pub/kmsg/inner/kbin.AppendCompactArrayLen -/
def p_appendCompactArrayLen (I : Ids) : FnP := ⟨.op (.cv .u32) [.s 1] 2 <|
  .op (.bin .add) [.k (.int .u32 1), .s 2] 3 <|
  .op (.call I.appendUvarint) [.s 0, .s 3] 4 <|
  .ret [.s 4], [.direct]⟩

/- pub-kmsg/pub/kmsg/inner/kbin.AppendInt8 -/
def p_appendInt8 (I : Ids) : FnP := ⟨.op (.cv .u8) [.s 1] 2 <|
  .op (.bsl I.e8) [.s 2] 3 <|
  .op (.app I.e8) [.s 0, .s 3] 4 <|
  .ret [.s 4], [.direct]⟩

/- pub-kmsg/pub/kmsg/inner/kbin.AppendCompactBytes -/
def p_appendCompactBytes (I : Ids) : FnP := ⟨.op .len [.s 1] 2 <|
  .op (.cv .u32) [.s 2] 3 <|
  .op (.bin .add) [.k (.int .u32 1), .s 3] 4 <|
  .op (.call I.appendUvarint) [.s 0, .s 4] 5 <|
  .op (.app I.e8) [.s 5, .s 1] 6 <|
  .ret [.s 6], [.direct]⟩

/- pub-kmsg/pub/kmsg/inner/kbin.AppendBytes -/
def p_appendBytes (I : Ids) : FnP := ⟨.op .len [.s 1] 2 <|
  .op (.cv .i32) [.s 2] 3 <|
  .op (.call I.appendInt32) [.s 0, .s 3] 4 <|
  .op (.app I.e8) [.s 4, .s 1] 5 <|
  .ret [.s 5], [.direct]⟩

/- pub-kmsg/pub/kmsg/inner/kbin.AppendCompactNullableBytes -/
def p_appendCompactNullableBytes (I : Ids) : FnP := ⟨.op (.isNil 1 false) [.s 1] 2 <|
  .ite (.s 2)
    (.op (.call I.appendUvarint) [.s 0, .k (.int .u32 0)] 3 <|
    .ret [.s 3])
    (.nil) <|
  .op (.call I.appendCompactBytes) [.s 0, .s 1] 4 <|
  .ret [.s 4], [.direct]⟩

/- pub-kmsg/pub/kmsg/inner/kbin.AppendCompactString -/
def p_appendCompactString (I : Ids) : FnP := ⟨.op .lenS [.s 1] 2 <|
  .op (.cv .u32) [.s 2] 3 <|
  .op (.bin .add) [.k (.int .u32 1), .s 3] 4 <|
  .op (.call I.appendUvarint) [.s 0, .s 4] 5 <|
  .op (.appS I.e8) [.s 5, .s 1] 6 <|
  .ret [.s 6], [.direct]⟩

/- (*pub-kmsg/pub/kmsg/inner/kbin.Reader).ArrayLen -/
def p_rArrayLen (I : Ids) : FnP := ⟨.op (.call I.rInt32) [.s 0] 1 <|
  .chk 0 <|
  .op .load [.q 0 0] 2 <|
  .op .len [.s 2] 3 <|
  .op (.cv .i64) [.s 1] 4 <|
  .op (.bin .lss) [.s 3, .s 4] 5 <|
  .ite (.s 5)
    (.op (.store 1) [.q 0 1, .k (.bool true)] 6 <|
    .op (.store 1) [.q 0 0, .k (.slice none 0 0)] 7 <|
    .ret [.k (.int .i32 0)])
    (.nil) <|
  .ret [.s 1], [.direct]⟩

/- (*pub-kmsg/pub/kmsg/inner/kbin.Reader).Ok -/
def p_rOk (I : Ids) : FnP := ⟨.chk 0 <|
  .op .load [.q 0 1] 1 <|
  .op .not [.s 1] 2 <|
  .ret [.s 2], [.direct]⟩

/- (*pub-kmsg/pub/kmsg/inner/kbin.Reader).Complete -/
def p_rComplete (I : Ids) : FnP := ⟨.chk 0 <|
  .op .load [.q 0 1] 1 <|
  .ite (.s 1)
    (.op .load [.k (.pointer (some ⟨I.err, 0, none⟩))] 2 <|
    .ret [.s 2])
    (.nil) <|
  .ret [.k (.nilIface)], [.direct]⟩

/- (*pub-kmsg/pub/kmsg/inner/kbin.Reader).UnsafeString -/
def p_rUnsafeString (I : Ids) : FnP := ⟨.op (.call I.rInt16) [.s 0] 1 <|
  .op (.cv .i64) [.s 1] 2 <|
  .op (.call I.rSpan) [.s 0, .s 2] 3 <|
  .op (.call I.unsafeString) [.s 3] 4 <|
  .ret [.s 4], [.direct]⟩

/- (*pub-kmsg/pub/kmsg/inner/kbin.Reader).String -/
def p_rString (I : Ids) : FnP := ⟨.op (.call I.rInt16) [.s 0] 1 <|
  .op (.cv .i64) [.s 1] 2 <|
  .op (.call I.rSpan) [.s 0, .s 2] 3 <|
  .op .toStr [.s 3] 4 <|
  .ret [.s 4], [.direct]⟩

/- (*pub-kmsg/pub/kmsg/inner/kbin.Reader).NullableBytes -/
def p_rNullableBytes (I : Ids) : FnP := ⟨.op (.call I.rInt32) [.s 0] 1 <|
  .op (.bin .lss) [.s 1, .k (.int .i32 0)] 2 <|
  .ite (.s 2)
    (.ret [.k (.slice none 0 0)])
    (.nil) <|
  .op (.cv .i64) [.s 1] 3 <|
  .op (.call I.rSpan) [.s 0, .s 3] 4 <|
  .ret [.s 4], [.direct]⟩

/- pub-kmsg/pub/kmsg/inner/kbin.AppendUint16 -/
def p_appendUint16 (I : Ids) : FnP := ⟨.op (.sh .shr) [.s 1, .k (.int .u64 8)] 2 <|
  .op (.cv .u8) [.s 2] 3 <|
  .op (.cv .u8) [.s 1] 4 <|
  .op (.bsl I.e8) [.s 3, .s 4] 5 <|
  .op (.app I.e8) [.s 0, .s 5] 6 <|
  .ret [.s 6], [.direct]⟩

/- pub-kmsg/pub/kmsg/inner/kbin.AppendUint32 -/
def p_appendUint32 (I : Ids) : FnP := ⟨.op (.sh .shr) [.s 1, .k (.int .u64 24)] 2 <|
  .op (.cv .u8) [.s 2] 3 <|
  .op (.sh .shr) [.s 1, .k (.int .u64 16)] 4 <|
  .op (.cv .u8) [.s 4] 5 <|
  .op (.sh .shr) [.s 1, .k (.int .u64 8)] 6 <|
  .op (.cv .u8) [.s 6] 7 <|
  .op (.cv .u8) [.s 1] 8 <|
  .op (.bsl I.e8) [.s 3, .s 5, .s 7, .s 8] 9 <|
  .op (.app I.e8) [.s 0, .s 9] 10 <|
  .ret [.s 10], [.direct]⟩

/- pub-kmsg/pub/kmsg/inner/kbin.UvarintLen -/
def p_uvarintLen (I : Ids) : FnP := ⟨.op (.call I.len32) [.s 0] 1 <|
  .op (.cv .u8) [.s 1] 2 <|
  .op .idxS [.k (.string I.lens), .s 2] 3 <|
  .op (.cv .i64) [.s 3] 4 <|
  .ret [.s 4], [.direct]⟩

/- (*pub-kmsg/pub/kmsg/inner/kbin.Reader).CompactArrayLen -/
def p_rCompactArrayLen (I : Ids) : FnP := ⟨.op (.call I.rUvarint) [.s 0] 1 <|
  .op (.cv .i32) [.s 1] 2 <|
  .op (.bin .sub) [.s 2, .k (.int .i32 1)] 3 <|
  .chk 0 <|
  .op .load [.q 0 0] 4 <|
  .op .len [.s 4] 5 <|
  .op (.cv .i64) [.s 3] 6 <|
  .op (.bin .lss) [.s 5, .s 6] 7 <|
  .ite (.s 7)
    (.op (.store 1) [.q 0 1, .k (.bool true)] 8 <|
    .op (.store 1) [.q 0 0, .k (.slice none 0 0)] 9 <|
    .ret [.k (.int .i32 0)])
    (.nil) <|
  .ret [.s 3], [.direct]⟩

/- (*pub-kmsg/pub/kmsg/inner/kbin.Reader).Int8 -/
def p_rInt8 (I : Ids) : FnP := ⟨.chk 0 <|
  .op .load [.q 0 0] 1 <|
  .op .len [.s 1] 2 <|
  .op (.bin .lss) [.s 2, .k (.int .i64 1)] 3 <|
  .ite (.s 3)
    (.op (.store 1) [.q 0 1, .k (.bool true)] 4 <|
    .op (.store 1) [.q 0 0, .k (.slice none 0 0)] 5 <|
    .ret [.k (.int .i8 0)])
    (.nil) <|
  .op .load [.q 0 0] 6 <|
  .op (.ia 1) [.s 6, .k (.int .i64 0)] 7 <|
  .chk 7 <|
  .op .load [.q 7 0] 8 <|
  .op .load [.q 0 0] 9 <|
  .op (.sl 1 true false false) [.s 9, .k (.int .i64 1)] 10 <|
  .op (.store 1) [.q 0 0, .s 10] 11 <|
  .op (.cv .i8) [.s 8] 12 <|
  .ret [.s 12], [.direct]⟩

/- (*pub-kmsg/pub/kmsg/inner/kbin.Reader).CompactBytes -/
def p_rCompactBytes (I : Ids) : FnP := ⟨.op (.call I.rUvarint) [.s 0] 1 <|
  .op (.cv .i64) [.s 1] 2 <|
  .op (.bin .sub) [.s 2, .k (.int .i64 1)] 3 <|
  .op (.bin .eql) [.s 3, .k (.int .i64 (-1))] 4 <|
  .ite (.s 4)
    (.op (.bsl I.e8) [] 5 <|
    .ret [.s 5])
    (.nil) <|
  .op (.call I.rSpan) [.s 0, .s 3] 6 <|
  .ret [.s 6], [.direct]⟩

/- (*pub-kmsg/pub/kmsg/inner/kbin.Reader).Bytes -/
def p_rBytes (I : Ids) : FnP := ⟨.op (.call I.rInt32) [.s 0] 1 <|
  .op (.bin .eql) [.s 1, .k (.int .i32 (-1))] 2 <|
  .ite (.s 2)
    (.op (.bsl I.e8) [] 3 <|
    .ret [.s 3])
    (.nil) <|
  .op (.cv .i64) [.s 1] 4 <|
  .op (.call I.rSpan) [.s 0, .s 4] 5 <|
  .ret [.s 5], [.direct]⟩

/- (*pub-kmsg/pub/kmsg/inner/kbin.Reader).CompactNullableBytes -/
def p_rCompactNullableBytes (I : Ids) : FnP := ⟨.op (.call I.rUvarint) [.s 0] 1 <|
  .op (.cv .i64) [.s 1] 2 <|
  .op (.bin .sub) [.s 2, .k (.int .i64 1)] 3 <|
  .op (.bin .lss) [.s 3, .k (.int .i64 0)] 4 <|
  .ite (.s 4)
    (.ret [.k (.slice none 0 0)])
    (.nil) <|
  .op (.call I.rSpan) [.s 0, .s 3] 5 <|
  .ret [.s 5], [.direct]⟩

/- (*pub-kmsg/pub/kmsg/inner/kbin.Reader).Uvarint -/
def p_rUvarint (I : Ids) : FnP := ⟨.chk 0 <|
  .op .load [.q 0 0] 1 <|
  .op (.call I.uvarint) [.s 1] 2 <|
  .op (.ex 0) [.s 2] 3 <|
  .op (.ex 1) [.s 2] 4 <|
  .op (.bin .leq) [.s 4, .k (.int .i64 0)] 5 <|
  .ite (.s 5)
    (.op (.store 1) [.q 0 1, .k (.bool true)] 6 <|
    .op (.store 1) [.q 0 0, .k (.slice none 0 0)] 7 <|
    .ret [.k (.int .u32 0)])
    (.nil) <|
  .op .load [.q 0 0] 8 <|
  .op (.sl 1 true false false) [.s 8, .s 4] 9 <|
  .op (.store 1) [.q 0 0, .s 9] 10 <|
  .ret [.s 3], [.direct]⟩

/- (*pub-kmsg/pub/kmsg/inner/kbin.Reader).Span -/
def p_rSpan (I : Ids) : FnP := ⟨.chk 0 <|
  .op .load [.q 0 0] 2 <|
  .op .len [.s 2] 3 <|
  .op (.bin .lss) [.s 3, .s 1] 4 <|
  .ite (.s 4)
    (.set 5 (.k (.tuple #[])) <|
    .nil)
    (.set 5 (.s 1) <|
    .nil) <|
  .ite (.s 4)
    (.set 7 (.k (.tuple #[])) <|
    .nil)
    (.op (.bin .lss) [.s 5, .k (.int .i64 0)] 6 <|
    .set 7 (.s 6) <|
    .nil) <|
  .ite (.s 4)
    (.set 8 (.k (.bool true)) <|
    .nil)
    (.set 8 (.s 7) <|
    .nil) <|
  .ite (.s 8)
    (.op (.store 1) [.q 0 1, .k (.bool true)] 9 <|
    .op (.store 1) [.q 0 0, .k (.slice none 0 0)] 10 <|
    .ret [.k (.slice none 0 0)])
    (.nil) <|
  .op .load [.q 0 0] 11 <|
  .op (.sl 1 false true true) [.s 11, .s 1, .s 1] 12 <|
  .op .load [.q 0 0] 13 <|
  .op (.sl 1 true false false) [.s 13, .s 1] 14 <|
  .op (.store 1) [.q 0 0, .s 14] 15 <|
  .ret [.s 12], [.direct]⟩

/- (*pub-kmsg/pub/kmsg/inner/kbin.Reader).UnsafeCompactString -/
def p_rUnsafeCompactString (I : Ids) : FnP := ⟨.op (.call I.rUvarint) [.s 0] 1 <|
  .op (.cv .i64) [.s 1] 2 <|
  .op (.bin .sub) [.s 2, .k (.int .i64 1)] 3 <|
  .op (.call I.rSpan) [.s 0, .s 3] 4 <|
  .op (.call I.unsafeString) [.s 4] 5 <|
  .ret [.s 5], [.direct]⟩

/- (*pub-kmsg/pub/kmsg/inner/kbin.Reader).CompactString -/
def p_rCompactString (I : Ids) : FnP := ⟨.op (.call I.rUvarint) [.s 0] 1 <|
  .op (.cv .i64) [.s 1] 2 <|
  .op (.bin .sub) [.s 2, .k (.int .i64 1)] 3 <|
  .op (.call I.rSpan) [.s 0, .s 3] 4 <|
  .op .toStr [.s 4] 5 <|
  .ret [.s 5], [.direct]⟩

/- pub-kmsg/pub/kmsg/inner/kbin.UnsafeString -/
def p_unsafeString (I : Ids) : FnP := ⟨.op .toStr [.s 0] 1 <|
  .ret [.s 1], [.direct]⟩

/- pub-kmsg/pub/kmsg/inner/kbin.AppendInt64 -/
def p_appendInt64 (I : Ids) : FnP := ⟨.op (.cv .u64) [.s 1] 2 <|
  .op (.call I.appendUint64) [.s 0, .s 2] 3 <|
  .ret [.s 3], [.direct]⟩

/- pub-kmsg/pub/kmsg/inner/kbin.AppendCompactNullableArrayLen -/
def p_appendCompactNullableArrayLen (I : Ids) : FnP := ⟨.ite (.s 2)
    (.op (.call I.appendUvarint) [.s 0, .k (.int .u32 0)] 3 <|
    .ret [.s 3])
    (.nil) <|
  .op (.cv .u32) [.s 1] 4 <|
  .op (.bin .add) [.k (.int .u32 1), .s 4] 5 <|
  .op (.call I.appendUvarint) [.s 0, .s 5] 6 <|
  .ret [.s 6], [.direct]⟩

/- pub-kmsg/pub/kmsg/inner/kbin.AppendNullableArrayLen -/
def p_appendNullableArrayLen (I : Ids) : FnP := ⟨.ite (.s 2)
    (.op (.call I.appendInt32) [.s 0, .k (.int .i32 (-1))] 3 <|
    .ret [.s 3])
    (.nil) <|
  .op (.cv .i32) [.s 1] 4 <|
  .op (.call I.appendInt32) [.s 0, .s 4] 5 <|
  .ret [.s 5], [.direct]⟩

/- pub-kmsg/pub/kmsg/inner/kbin.AppendBool -/
def p_appendBool (I : Ids) : FnP := ⟨.ite (.s 1)
    (.op (.bsl I.e8) [.k (.int .u8 1)] 2 <|
    .op (.app I.e8) [.s 0, .s 2] 3 <|
    .ret [.s 3])
    (.nil) <|
  .op (.bsl I.e8) [.k (.int .u8 0)] 4 <|
  .op (.app I.e8) [.s 0, .s 4] 5 <|
  .ret [.s 5], [.direct]⟩

/- pub-kmsg/pub/kmsg/inner/kbin.AppendCompactNullableString -/
def p_appendCompactNullableString (I : Ids) : FnP := ⟨.op (.isNil 0 false) [.s 1] 2 <|
  .ite (.s 2)
    (.op (.call I.appendUvarint) [.s 0, .k (.int .u32 0)] 3 <|
    .ret [.s 3])
    (.nil) <|
  .chk 1 <|
  .op .load [.q 1 0] 4 <|
  .op (.call I.appendCompactString) [.s 0, .s 4] 5 <|
  .ret [.s 5], [.direct]⟩

/- pub-kmsg/pub/kmsg/inner/kbin.AppendNullableString -/
def p_appendNullableString (I : Ids) : FnP := ⟨.op (.isNil 0 false) [.s 1] 2 <|
  .ite (.s 2)
    (.op (.call I.appendInt16) [.s 0, .k (.int .i16 (-1))] 3 <|
    .ret [.s 3])
    (.nil) <|
  .chk 1 <|
  .op .load [.q 1 0] 4 <|
  .op (.call I.appendString) [.s 0, .s 4] 5 <|
  .ret [.s 5], [.direct]⟩

/- (*pub-kmsg/pub/kmsg/inner/kbin.Reader).Int64 -/
def p_rInt64 (I : Ids) : FnP := ⟨.op (.call I.rreadUint64) [.s 0] 1 <|
  .op (.cv .i64) [.s 1] 2 <|
  .ret [.s 2], [.direct]⟩

/- pub-kmsg/pub/kmsg/inner/kbin.appendUint64 -/
def p_appendUint64 (I : Ids) : FnP := ⟨.op (.sh .shr) [.s 1, .k (.int .u64 56)] 2 <|
  .op (.cv .u8) [.s 2] 3 <|
  .op (.sh .shr) [.s 1, .k (.int .u64 48)] 4 <|
  .op (.cv .u8) [.s 4] 5 <|
  .op (.sh .shr) [.s 1, .k (.int .u64 40)] 6 <|
  .op (.cv .u8) [.s 6] 7 <|
  .op (.sh .shr) [.s 1, .k (.int .u64 32)] 8 <|
  .op (.cv .u8) [.s 8] 9 <|
  .op (.sh .shr) [.s 1, .k (.int .u64 24)] 10 <|
  .op (.cv .u8) [.s 10] 11 <|
  .op (.sh .shr) [.s 1, .k (.int .u64 16)] 12 <|
  .op (.cv .u8) [.s 12] 13 <|
  .op (.sh .shr) [.s 1, .k (.int .u64 8)] 14 <|
  .op (.cv .u8) [.s 14] 15 <|
  .op (.cv .u8) [.s 1] 16 <|
  .op (.bsl I.e8) [.s 3, .s 5, .s 7, .s 9, .s 11, .s 13, .s 15, .s 16] 17 <|
  .op (.app I.e8) [.s 0, .s 17] 18 <|
  .ret [.s 18], [.direct]⟩

/- (*pub-kmsg/pub/kmsg/inner/kbin.Reader).Bool -/
def p_rBool (I : Ids) : FnP := ⟨.chk 0 <|
  .op .load [.q 0 0] 1 <|
  .op .len [.s 1] 2 <|
  .op (.bin .lss) [.s 2, .k (.int .i64 1)] 3 <|
  .ite (.s 3)
    (.op (.store 1) [.q 0 1, .k (.bool true)] 4 <|
    .op (.store 1) [.q 0 0, .k (.slice none 0 0)] 5 <|
    .ret [.k (.bool false)])
    (.nil) <|
  .op .load [.q 0 0] 6 <|
  .op (.ia 1) [.s 6, .k (.int .i64 0)] 7 <|
  .chk 7 <|
  .op .load [.q 7 0] 8 <|
  .op (.bin .neq) [.s 8, .k (.int .u8 0)] 9 <|
  .op .load [.q 0 0] 10 <|
  .op (.sl 1 true false false) [.s 10, .k (.int .i64 1)] 11 <|
  .op (.store 1) [.q 0 0, .s 11] 12 <|
  .ret [.s 9], [.direct]⟩

/- (*pub-kmsg/pub/kmsg/inner/kbin.Reader).UnsafeCompactNullableString -/
def p_rUnsafeCompactNullableString (I : Ids) : FnP := ⟨.op (.call I.rUvarint) [.s 0] 1 <|
  .op (.cv .i64) [.s 1] 2 <|
  .op (.bin .sub) [.s 2, .k (.int .i64 1)] 3 <|
  .op (.bin .lss) [.s 3, .k (.int .i64 0)] 4 <|
  .ite (.s 4)
    (.ret [.k (.pointer none)])
    (.nil) <|
  .op (.call I.rSpan) [.s 0, .s 3] 5 <|
  .op (.call I.unsafeString) [.s 5] 6 <|
  .op (.alloc [.string ByteArray.empty]) [] 7 <|
  .chk 7 <|
  .op (.store 1) [.q 7 0, .s 6] 8 <|
  .ret [.q 7 0], [.direct]⟩

/- (*pub-kmsg/pub/kmsg/inner/kbin.Reader).CompactNullableString -/
def p_rCompactNullableString (I : Ids) : FnP := ⟨.op (.call I.rUvarint) [.s 0] 1 <|
  .op (.cv .i64) [.s 1] 2 <|
  .op (.bin .sub) [.s 2, .k (.int .i64 1)] 3 <|
  .op (.bin .lss) [.s 3, .k (.int .i64 0)] 4 <|
  .ite (.s 4)
    (.ret [.k (.pointer none)])
    (.nil) <|
  .op (.call I.rSpan) [.s 0, .s 3] 5 <|
  .op .toStr [.s 5] 6 <|
  .op (.alloc [.string ByteArray.empty]) [] 7 <|
  .chk 7 <|
  .op (.store 1) [.q 7 0, .s 6] 8 <|
  .ret [.q 7 0], [.direct]⟩

/- (*pub-kmsg/pub/kmsg/inner/kbin.Reader).UnsafeNullableString -/
def p_rUnsafeNullableString (I : Ids) : FnP := ⟨.op (.call I.rInt16) [.s 0] 1 <|
  .op (.bin .lss) [.s 1, .k (.int .i16 0)] 2 <|
  .ite (.s 2)
    (.ret [.k (.pointer none)])
    (.nil) <|
  .op (.cv .i64) [.s 1] 3 <|
  .op (.call I.rSpan) [.s 0, .s 3] 4 <|
  .op (.call I.unsafeString) [.s 4] 5 <|
  .op (.alloc [.string ByteArray.empty]) [] 6 <|
  .chk 6 <|
  .op (.store 1) [.q 6 0, .s 5] 7 <|
  .ret [.q 6 0], [.direct]⟩

/- (*pub-kmsg/pub/kmsg/inner/kbin.Reader).NullableString -/
def p_rNullableString (I : Ids) : FnP := ⟨.op (.call I.rInt16) [.s 0] 1 <|
  .op (.bin .lss) [.s 1, .k (.int .i16 0)] 2 <|
  .ite (.s 2)
    (.ret [.k (.pointer none)])
    (.nil) <|
  .op (.cv .i64) [.s 1] 3 <|
  .op (.call I.rSpan) [.s 0, .s 3] 4 <|
  .op .toStr [.s 4] 5 <|
  .op (.alloc [.string ByteArray.empty]) [] 6 <|
  .chk 6 <|
  .op (.store 1) [.q 6 0, .s 5] 7 <|
  .ret [.q 6 0], [.direct]⟩

/- math/bits.Len32 -/
def p_len32 (I : Ids) : FnP := ⟨.op (.bin .geq) [.s 0, .k (.int .u32 65536)] 1 <|
  .ite (.s 1)
    (.op (.sh .shr) [.s 0, .k (.int .u64 16)] 2 <|
    .set 3 (.s 2) <|
    .set 4 (.k (.int .i64 16)) <|
    .nil)
    (.set 3 (.s 0) <|
    .set 4 (.k (.int .i64 0)) <|
    .nil) <|
  .op (.bin .geq) [.s 3, .k (.int .u32 256)] 5 <|
  .ite (.s 5)
    (.op (.sh .shr) [.s 3, .k (.int .u64 8)] 6 <|
    .op (.bin .add) [.s 4, .k (.int .i64 8)] 7 <|
    .set 8 (.s 6) <|
    .set 9 (.s 7) <|
    .nil)
    (.set 8 (.s 3) <|
    .set 9 (.s 4) <|
    .nil) <|
  .op (.cv .u8) [.s 8] 10 <|
  .op .idxS [.k (.string I.tab8), .s 10] 11 <|
  .op (.cv .i64) [.s 11] 12 <|
  .op (.bin .add) [.s 9, .s 12] 13 <|
  .ret [.s 13], [.direct]⟩

end Go.Kb

/- What kbin's readers do. -/
namespace Go.Kb
open Go.Lx Go.Nx Go.Km Go.Mx

set_option linter.unusedSimpArgs false
set_option linter.unusedVariables false

abbrev ptr (b : Nat) : Value := .pointer (some ⟨b, 0, none⟩)

section
variable {P : Program}

theorem np_op {i : In} {args : List SV} {n : Nat} {k : NP} {Q : Out → (Nat → Value) → World → Prop} {η : Nat → Value} {w : World} {vs : List Value} (hv : args.map (SV.val η) = vs) (h : In.wp P i vs w fun v w' => k.wp P Q (upd η n v) w') :
    (NP.op i args n k).wp P Q η w := by
  show In.wp P i (args.map (SV.val η)) w _
  rw [hv]
  exact h

theorem np_ite {c : SV} {a b k : NP} {Q : Out → (Nat → Value) → World → Prop} {η : Nat → Value} {w : World} (t : Bool) (hc : c.val η = .bool t)
    (h : (if t then a else b).wp P (fun o η w => match o with | .nrm => k.wp P Q η w | o => Q o η w) η w) : (NP.ite c a b k).wp P Q η w := by
  refine ⟨t, hc, fun e => ?_, fun e => ?_⟩ <;> subst e <;> exact h

/-- A world's new blocks are settled, what is read from is not. -/
structure Env (ok : Nat → Prop) (w : World) (R : Nat) : Prop where
  new : ∀ k, w.heap.size ≤ k → ok k
  notR : ¬ ok R

theorem Env.keep {ok : Nat → Prop} {w w' : World} {R : Nat} {A : List Nat} (h : Env ok w R) (k : Keep A w w') : Env ok w' R := ⟨fun i hi => h.new i (Nat.le_trans k.size hi), h.notR⟩

theorem Env.same {ok : Nat → Prop} {w w' w'' : World} {R : Nat} (h : Env ok w R) (k : Keep [R] w' w'') : Same ok w' w'' := k.same fun x hx => by rw [List.mem_singleton.1 hx]; exact h.notR

/-- What a reader of a value leaves. -/
def ReadEnd (ok : Nat → Prop) (R : Nat) {α : Type} (dec : Bs → Option (α × Bs)) (rep : (Nat → Prop) → World → α → Value → Prop) (zr : Value → Prop) (s : Option Bs) (v : Value) (w' : World) : Prop :=
  match s.bind dec with
  | some (x, rest) => Rd ok w' R true (some rest) ∧ rep ok w' x v
  | none => Rd ok w' R false none ∧ zr v

/-- A function reads by 'dec' a value told by 'rep'. -/
def Reads (P : Program) (f : FuncId) {α : Type} (dec : Bs → Option (α × Bs)) (rep : (Nat → Prop) → World → α → Value → Prop) (zr : Value → Prop) : Prop :=
  ∀ (ok : Nat → Prop) (w : World) (R : Nat) (nn : Bool) (s : Option Bs) (K : Value → World → Prop), Env ok w R → Rd ok w R nn s →
    (∀ v w', Keep [R] w w' → ReadEnd ok R dec rep zr s v w' → K v w') → In.wp P (.call f) [ptr R] w K

def intRep (k : IntKind) : (Nat → Prop) → World → Int → Value → Prop := fun _ _ n v => v = .int k n
def natRep (k : IntKind) : (Nat → Prop) → World → Nat → Value → Prop := fun _ _ n v => v = .int k (n : Int)

/-- The reader's cells: what is left and whether too little was there. -/
theorem rd_row {ok : Nat → Prop} {w : World} {R : Nat} {nn : Bool} {s : Option Bs} (h : Rd ok w R nn s) : ∃ v, Row w R [v, .bool s.isNone] ∧ Sl ok w v (s.getD []) ∧ (s = none → v = .slice none 0 0) := by
  cases s with
  | none => exact ⟨_, h, .inl ⟨rfl, rfl⟩, fun _ => rfl⟩
  | some bs =>
    obtain ⟨v, h1, h2, _⟩ := h
    exact ⟨v, h1, h2, fun h => by cases h⟩

theorem sl_slice {ok : Nat → Prop} {w : World} {v : Value} {bs : Bs} (h : Sl ok w v bs) : ∃ a c, v = .slice a bs.length c ∧ bs.length ≤ c := by
  rcases h with ⟨rfl, rfl⟩ | ⟨a, c, rfl, h, _⟩
  · exact ⟨none, 0, rfl, Nat.le_refl _⟩
  · exact ⟨some a, c, rfl, h⟩

/-- Too little: the reader is spoilt. -/
theorem spoil {w : World} {R : Nat} {v : Value} {b : Bool} (hrow : Row w R [v, .bool b]) {k : NP} {Q : Out → (Nat → Value) → World → Prop} {η : Nat → Value} (h0 : η 0 = ptr R) {i j : Nat} (hi : i ≠ 0)
    (h : ∀ w', Keep [R] w w' → Row w' R [.slice none 0 0, .bool true] → k.wp P Q (upd (upd η i undef) j undef) w') :
    (NP.op (.store 1) [.q 0 1, .k (.bool true)] i <| NP.op (.store 1) [.q 0 0, .k (.slice none 0 0)] j k).wp P Q η w := by
  refine np_op (vs := [.pointer (some ⟨R, 1, none⟩), .bool true]) (by simp [SV.val, h0, Addr.add]) (wp_store hrow (Fit.one rfl rfl) (by simp) fun w1 r1 k1 => ?_)
  refine np_op (vs := [.pointer (some ⟨R, 0, none⟩), .slice none 0 0]) (by simp [SV.val, upd, h0, hi.symm, Addr.add]) (wp_store r1 (Fit.one rfl rfl) (by simp [put]) fun w2 r2 k2 => ?_)
  exact h w2 (k1.then k2) (by simpa [put, Value.cells] using r2)

theorem short_cut {s : Option Bs} {k : Nat} (h : (s.getD []).length < k) : s.bind (cut k) = none := by
  cases s with
  | none => rfl
  | some bs => simp only [Option.getD_some] at h; simp [cut]; omega

theorem add0 (a : Addr) : a.add 0 = a := by simp [Addr.add]

/-- What is left behind the first octets. -/
theorem sl_drop {ok : Nat → Prop} {w : World} {a : Addr} {bs : Bs} {c n : Nat} (hb : BytesIn ok w a bs) (hc : bs.length ≤ c) (hn : n ≤ bs.length) :
    Sl ok w (.slice (if c = n then some a else (some a).map (·.add (n * 1))) (bs.length - n) (c - n)) (bs.drop n) ∧ (Value.slice (if c = n then some a else (some a).map (·.add (n * 1))) (bs.length - n) (c - n) ≠ .slice none 0 0) := by
  by_cases h : c = n
  · have : bs.length = n := by omega
    simp only [h, if_true]
    refine ⟨.inr ⟨a, 0, ?_, ?_, ?_⟩, by simp⟩
    · simp [this]
    · simp [this]
    · rw [List.drop_of_length_le (by omega)]; exact hb.nil
  · simp only [h, if_false, Option.map_some, Nat.mul_one]
    refine ⟨.inr ⟨a.add n, c - n, by simp, by simp; omega, hb.drop n⟩, by simp⟩

theorem sl_some {ok : Nat → Prop} {w : World} {v : Value} {bs : Bs} (h : Sl ok w v bs) (hb : bs ≠ []) : ∃ a c, v = .slice (some a) bs.length c ∧ bs.length ≤ c ∧ BytesIn ok w a bs := by
  rcases h with ⟨_, h⟩ | h
  · exact (hb h).elim
  · exact h

theorem wrap_sgn (k : IntKind) (hk : k.signed = true) (n : Nat) (hn : n < 2 ^ k.bits) : k.wrap (n : Int) = sgn k.bits n := by
  have h2 : ((n : Int)) % ((2 : Int) ^ k.bits) = n := Int.emod_eq_of_lt (by omega) (by exact_mod_cast hn)
  simp only [IntKind.wrap, hk, Bool.true_and, h2, sgn]
  have e : ((2 : Int) ^ (k.bits - 1)) = ((2 ^ (k.bits - 1) : Nat) : Int) := by simp
  rw [e]
  by_cases h : n < 2 ^ (k.bits - 1)
  · have h3 : ¬ ((n : Int) ≥ ((2 ^ (k.bits - 1) : Nat) : Int)) := by omega
    rw [if_pos h, if_neg (by simpa only [decide_eq_true_eq] using h3)]
  · have h3 : (n : Int) ≥ ((2 ^ (k.bits - 1) : Nat) : Int) := by omega
    rw [if_neg h, if_pos (by simpa only [decide_eq_true_eq] using h3)]

/-- The reader after a read of n octets. -/
theorem rd_after {ok : Nat → Prop} {w w' : World} {R : Nat} {v : Value} {bs : Bs} {o : Value} (he : Env ok w R) (hrow : Row w' R [v, .bool false]) (k : Keep [R] w w') (hsl : Sl ok w v bs) (hne : v ≠ .slice none 0 0) : Rd ok w' R true (some bs) :=
  ⟨v, hrow, hsl.same (he.same k), fun _ => hne⟩

def rdB (bs : Bs) : Option (Bool × Bs) := (cut 1 bs).map fun p => (ofBe p.1 != 0, p.2)
def boolRep : (Nat → Prop) → World → Bool → Value → Prop := fun _ _ b v => v = .bool b

theorem rInt8_ok (hn : Named P) {I : Ids} {f : FuncId} (hf : fnP P f 1 = some (p_rInt8 I)) : Reads P f (rdI 1) (intRep .i8) (· = .int .i8 0) := by
  intro ok w R nn s K he hs hk
  refine calls_of_np hn (vs := [ptr R]) hf fun η hη => ?_
  have h0 : η 0 = ptr R := hη 0 (by simp)
  obtain ⟨src, hrow, hsl, hbad⟩ := rd_row hs
  obtain ⟨a, c, hsrc, hc⟩ := sl_slice hsl
  refine ⟨⟨_, h0⟩, ?_⟩
  refine np_op (vs := [ptr R]) (by simp [SV.val, h0, Addr.add]) (wp_load hrow rfl ?_)
  refine np_op (vs := [src]) (by simp [SV.val, upd]) ⟨a, _, c, by rw [hsrc], ?_⟩
  refine np_op (vs := [goInt (s.getD []).length, .int .i64 1]) (by simp [SV.val, upd]) ⟨.i64, _, _, _, rfl, rfl, ?_⟩
  refine np_ite (decide (((s.getD []).length : Int) < 1)) (by simp [SV.val, upd]) ?_
  by_cases hlt : ((s.getD []).length : Int) < 1
  · simp only [hlt, decide_true, if_true]
    refine spoil hrow (by simp [upd, h0]) (by simp) fun w1 k1 r1 => ?_
    refine hk _ w1 k1 ?_
    have : s.bind (rdI 1) = none := by
      have := short_cut (s := s) (k := 1) (by omega)
      cases s <;> simp_all [rdI, rdU]
    unfold ReadEnd
    rw [this]
    exact ⟨r1, rfl⟩
  · simp only [hlt, decide_false, Bool.false_eq_true, if_false]
    cases s with
    | none => simp at hlt
    | some bs =>
      cases bs with
      | nil => simp at hlt
      | cons b r =>
        obtain ⟨a, c, hsrc, hc, hb⟩ := sl_some hsl (by simp)
        simp only [Option.getD_some] at hsrc hc hb
        have hcell : w.cell? (a.add 0) = some (u8 b) := hb.2.2 0 (by simp)
        rw [add0] at hcell
        refine np_op (vs := [ptr R]) (by simp [SV.val, upd, h0, Addr.add]) (wp_load hrow rfl ?_)
        refine np_op (vs := [src, .int .i64 0]) (by simp [SV.val, upd]) ⟨a, _, c, .i64, 0, by rw [hsrc]; rfl, by simp, ?_⟩
        refine ⟨⟨a, by simp [upd, add0]⟩, ?_⟩
        refine np_op (vs := [.pointer (some a)]) (by simp [SV.val, upd, add0]) ⟨a, _, rfl, hcell, ?_⟩
        refine np_op (vs := [ptr R]) (by simp [SV.val, upd, h0, Addr.add]) (wp_load hrow rfl ?_)
        refine np_op (vs := [src, .int .i64 1]) (by simp [SV.val, upd]) ⟨some a, _, c, [.int .i64 1], by rw [hsrc], ?_⟩
        simp only [bnd, if_true, Bool.false_eq_true, if_false]
        refine ⟨.i64, 1, [], rfl, rfl, by simp, hc, Nat.le_refl _, ?_⟩
        obtain ⟨g1, g2⟩ := sl_drop (n := 1) hb hc (by simp)
        refine np_op (vs := [ptr R, _]) (by simp [SV.val, upd, h0, Addr.add]) (wp_store hrow (Sl.fit g1) (by simp) fun w1 r1 k1 => ?_)
        refine np_op (vs := [u8 b]) (by simp [SV.val, upd]) ⟨.u8, _, rfl, ?_⟩
        refine hk _ w1 k1 ?_
        have hrd : rdI 1 (b :: r) = some (sgn 8 b.toNat, r) := by simp [rdI, rdU, cut, ofBe]
        simp only [ReadEnd, Option.bind_some, hrd]
        refine ⟨rd_after (o := undef) he (by simpa [put, Value.cells] using r1) k1 g1 g2, ?_⟩
        simp only [intRep, u8, SV.val, upd, if_true]
        rw [wrap_sgn .i8 rfl _ (by have := b.toNat_lt; simpa [IntKind.bits] using this)]
        rfl

theorem rBool_ok (hn : Named P) {I : Ids} {f : FuncId} (hf : fnP P f 1 = some (p_rBool I)) : Reads P f rdB boolRep (· = .bool false) := by
  intro ok w R nn s K he hs hk
  refine calls_of_np hn (vs := [ptr R]) hf fun η hη => ?_
  have h0 : η 0 = ptr R := hη 0 (by simp)
  obtain ⟨src, hrow, hsl, hbad⟩ := rd_row hs
  obtain ⟨a, c, hsrc, hc⟩ := sl_slice hsl
  refine ⟨⟨_, h0⟩, ?_⟩
  refine np_op (vs := [ptr R]) (by simp [SV.val, h0, Addr.add]) (wp_load hrow rfl ?_)
  refine np_op (vs := [src]) (by simp [SV.val, upd]) ⟨a, _, c, by rw [hsrc], ?_⟩
  refine np_op (vs := [goInt (s.getD []).length, .int .i64 1]) (by simp [SV.val, upd]) ⟨.i64, _, _, _, rfl, rfl, ?_⟩
  refine np_ite (decide (((s.getD []).length : Int) < 1)) (by simp [SV.val, upd]) ?_
  by_cases hlt : ((s.getD []).length : Int) < 1
  · simp only [hlt, decide_true, if_true]
    refine spoil hrow (by simp [upd, h0]) (by simp) fun w1 k1 r1 => ?_
    refine hk _ w1 k1 ?_
    have : s.bind rdB = none := by
      have := short_cut (s := s) (k := 1) (by omega)
      cases s <;> simp_all [rdB]
    unfold ReadEnd
    rw [this]
    exact ⟨r1, rfl⟩
  · simp only [hlt, decide_false, Bool.false_eq_true, if_false]
    cases s with
    | none => simp at hlt
    | some bs =>
      cases bs with
      | nil => simp at hlt
      | cons b r =>
        obtain ⟨a, c, hsrc, hc, hb⟩ := sl_some hsl (by simp)
        simp only [Option.getD_some] at hsrc hc hb
        have hcell : w.cell? (a.add 0) = some (u8 b) := hb.2.2 0 (by simp)
        rw [add0] at hcell
        refine np_op (vs := [ptr R]) (by simp [SV.val, upd, h0, Addr.add]) (wp_load hrow rfl ?_)
        refine np_op (vs := [src, .int .i64 0]) (by simp [SV.val, upd]) ⟨a, _, c, .i64, 0, by rw [hsrc]; rfl, by simp, ?_⟩
        refine ⟨⟨a, by simp [upd, add0]⟩, ?_⟩
        refine np_op (vs := [.pointer (some a)]) (by simp [SV.val, upd, add0]) ⟨a, _, rfl, hcell, ?_⟩
        refine np_op (vs := [u8 b, .int .u8 0]) (by simp [SV.val, upd]) ⟨.u8, _, _, _, rfl, rfl, ?_⟩
        refine np_op (vs := [ptr R]) (by simp [SV.val, upd, h0, Addr.add]) (wp_load hrow rfl ?_)
        refine np_op (vs := [src, .int .i64 1]) (by simp [SV.val, upd]) ⟨some a, _, c, [.int .i64 1], by rw [hsrc], ?_⟩
        simp only [bnd, if_true, Bool.false_eq_true, if_false]
        refine ⟨.i64, 1, [], rfl, rfl, by simp, hc, Nat.le_refl _, ?_⟩
        obtain ⟨g1, g2⟩ := sl_drop (n := 1) hb hc (by simp)
        refine np_op (vs := [ptr R, _]) (by simp [SV.val, upd, h0, Addr.add]) (wp_store hrow (Sl.fit g1) (by simp) fun w1 r1 k1 => ?_)
        refine hk _ w1 k1 ?_
        have hrd : rdB (b :: r) = some (ofBe [b] != 0, r) := by simp [rdB, cut]
        simp only [ReadEnd, Option.bind_some, hrd]
        refine ⟨rd_after (o := undef) he (by simpa [put, Value.cells] using r1) k1 g1 g2, ?_⟩
        simp only [boolRep, SV.val, upd, if_true]
        have e : ((b.toNat : Int) == 0) = (b.toNat == 0) := by rw [Bool.eq_iff_iff]; simp only [beq_iff_eq]; omega
        simp [pack, ofBe, u8, bne, e]

/-- What a read of so many octets leaves. -/
def SpanEnd (ok : Nat → Prop) (R : Nat) (nn : Bool) (l : Int) (s : Option Bs) (v : Value) (w' : World) : Prop :=
  match s.bind (rdSpan l) with
  | some (q, r) => Rd ok w' R nn (some r) ∧ Sl ok w' v q ∧ (nn = true → v ≠ .slice none 0 0)
  | none => Rd ok w' R false none ∧ v = .slice none 0 0

def Spans (P : Program) (f : FuncId) : Prop :=
  ∀ (ok : Nat → Prop) (w : World) (R : Nat) (nn : Bool) (s : Option Bs) (l : Int) (K : Value → World → Prop), Env ok w R → Rd ok w R nn s →
    (∀ v w', Keep [R] w w' → SpanEnd ok R nn l s v w' → K v w') → In.wp P (.call f) [ptr R, .int .i64 l] w K

/-- The first octets of a slice, as one of their own capacity. -/
theorem sl_take {ok : Nat → Prop} {w : World} {a : Addr} {bs : Bs} {n : Nat} (hb : BytesIn ok w a bs) (hn : n ≤ bs.length) :
    Sl ok w (.slice (if n = 0 then some a else (some a).map (·.add (0 * 1))) (n - 0) (n - 0)) (bs.take n) ∧ (Value.slice (if n = 0 then some a else (some a).map (·.add (0 * 1))) (n - 0) (n - 0) ≠ .slice none 0 0) := by
  have e : (if n = 0 then some a else (some a).map (·.add (0 * 1))) = some a := by split <;> simp [add0]
  rw [e]
  exact ⟨.inr ⟨a, n, by simp [Nat.min_eq_left hn], by simp; omega, hb.take n⟩, by simp⟩

theorem rSpan_ok (hn : Named P) {I : Ids} {f : FuncId} (hf : fnP P f 2 = some (p_rSpan I)) : Spans P f := by
  intro ok w R nn s l K he hs hk
  refine calls_of_np hn (vs := [ptr R, .int .i64 l]) hf fun η hη => ?_
  have h0 : η 0 = ptr R := hη 0 (by simp)
  have h1 : η 1 = .int .i64 l := hη 1 (by simp)
  obtain ⟨src, hrow, hsl, hbad⟩ := rd_row hs
  obtain ⟨a, c, hsrc, hc⟩ := sl_slice hsl
  -- the three steps of the test
  have bad : ∀ (η' : Nat → Value) (Q : Out → (Nat → Value) → World → Prop), η' 0 = ptr R → (((s.getD []).length : Int) < l ∨ l < 0) → (∀ v w', K v w' → ∀ η'', Q (.ret [v]) η'' w') →
      (NP.op (.store 1) [.q 0 1, .k (.bool true)] 9 <| NP.op (.store 1) [.q 0 0, .k (.slice none 0 0)] 10 <| NP.ret [.k (.slice none 0 0)]).wp P Q η' w := by
    intro η' Q h0' hl hq
    refine spoil hrow h0' (by simp) fun w1 k1 r1 => ?_
    refine hq _ _ (hk _ w1 k1 ?_) _
    have : s.bind (rdSpan l) = none := by
      cases s with
      | none => rfl
      | some bs =>
        simp only [Option.getD_some] at hl
        simp only [Option.bind_some, rdSpan]
        split
        · simp only [cut]; rw [if_neg (by omega)]
        · rfl
    unfold SpanEnd
    rw [this]
    exact ⟨r1, rfl⟩
  refine ⟨⟨_, h0⟩, ?_⟩
  refine np_op (vs := [ptr R]) (by simp [SV.val, h0, Addr.add]) (wp_load hrow rfl ?_)
  refine np_op (vs := [src]) (by simp [SV.val, upd]) ⟨a, _, c, by rw [hsrc], ?_⟩
  refine np_op (vs := [goInt (s.getD []).length, .int .i64 l]) (by simp [SV.val, upd, h1]) ⟨.i64, _, _, _, rfl, rfl, ?_⟩
  refine np_ite (decide (((s.getD []).length : Int) < l)) (by simp [SV.val, upd]) ?_
  by_cases hlt : ((s.getD []).length : Int) < l
  · simp only [hlt, decide_true, if_true]
    refine np_ite true (by simp [SV.val, upd]) ?_
    refine np_ite true (by simp [SV.val, upd]) ?_
    refine np_ite true (by simp [SV.val, upd]) ?_
    exact bad _ _ (by simp [upd, h0]) (.inl hlt) (fun v w' hK η'' => hK)
  · simp only [hlt, decide_false, Bool.false_eq_true, if_false]
    refine np_ite false (by simp [SV.val, upd]) ?_
    refine np_op (vs := [.int .i64 l, .int .i64 0]) (by simp [SV.val, upd, h1]) ⟨.i64, _, _, _, rfl, rfl, ?_⟩
    refine np_ite false (by simp [SV.val, upd]) ?_
    refine np_ite (decide (l < 0)) (by simp [SV.val, upd]) ?_
    by_cases hneg : l < 0
    · simp only [hneg, decide_true, if_true]
      exact bad _ _ (by simp [upd, h0]) (.inr hneg) (fun v w' hK η'' => hK)
    · simp only [hneg, decide_false, Bool.false_eq_true, if_false]
      obtain ⟨n, rfl⟩ := Int.eq_ofNat_of_zero_le (Int.not_lt.1 hneg)
      have hle : n ≤ (s.getD []).length := by omega
      refine np_op (vs := [ptr R]) (by simp [SV.val, upd, h0, Addr.add]) (wp_load hrow rfl ?_)
      refine np_op (vs := [src, .int .i64 (n : Int), .int .i64 (n : Int)]) (by simp [SV.val, upd, h1]) ⟨a, _, c, _, by rw [hsrc], ?_⟩
      simp only [bnd, if_true, Bool.false_eq_true, if_false]
      refine ⟨.i64, n, _, rfl, .i64, n, _, rfl, rfl, Nat.zero_le _, Nat.le_refl _, by omega, ?_⟩
      refine np_op (vs := [ptr R]) (by simp [SV.val, upd, h0, Addr.add]) (wp_load hrow rfl ?_)
      refine np_op (vs := [src, .int .i64 (n : Int)]) (by simp [SV.val, upd, h1]) ⟨a, _, c, _, by rw [hsrc], ?_⟩
      simp only [bnd, if_true, Bool.false_eq_true, if_false]
      refine ⟨.i64, n, _, rfl, rfl, hle, hc, Nat.le_refl _, ?_⟩
      refine np_op (vs := [ptr R, .slice (if c = n then a else a.map (·.add (n * 1))) ((s.getD []).length - n) (c - n)]) (by simp [SV.val, upd, h0, add0]) (wp_store hrow (Fit.one rfl rfl) (by simp) fun w1 r1 k1 => ?_)
      have r1' : Row w1 R [.slice (if c = n then a else a.map (·.add (n * 1))) ((s.getD []).length - n) (c - n), .bool s.isNone] := by simpa [put, Value.cells] using r1
      refine hk _ w1 k1 ?_
      cases s with
      | none =>
        have hsn := hbad rfl
        subst hsn
        simp only [Value.slice.injEq] at hsrc
        obtain ⟨rfl, _, rfl⟩ := hsrc
        simp only [Option.getD_none, List.length_nil, Nat.le_zero_eq] at hle
        subst hle
        simp only [SpanEnd, Option.bind_none]
        refine ⟨?_, by simp [pack, SV.val, upd]⟩
        show Row w1 R [.slice none 0 0, .bool true]
        simpa using r1'
      | some bs =>
        simp only [Option.getD_some] at hle hsl hsrc hc r1'
        have hspan : rdSpan (n : Int) bs = some (bs.take n, bs.drop n) := by simp [rdSpan, cut, hle]
        simp only [SpanEnd, Option.bind_some, hspan]
        rcases hsl with ⟨h2, h3⟩ | ⟨ad, c', h2, h3, h4⟩
        · subst h3
          rw [h2] at hsrc
          simp only [Value.slice.injEq] at hsrc
          obtain ⟨rfl, _, rfl⟩ := hsrc
          simp only [List.length_nil, Nat.le_zero_eq] at hle
          subst hle
          obtain ⟨v, g1, g2, g3⟩ := hs
          have hv : v = src := by have := g1.inj hrow; simp at this; exact this
          subst hv
          refine ⟨⟨_, by simpa using r1', .inl ⟨by simp, by simp⟩, fun h => (g3 h h2).elim⟩, .inl ⟨by simp [pack, SV.val, upd], by simp⟩, fun h => (g3 h h2).elim⟩
        · rw [h2] at hsrc
          simp only [Value.slice.injEq] at hsrc
          obtain ⟨rfl, _, rfl⟩ := hsrc
          obtain ⟨g1, g2⟩ := sl_drop (n := n) h4 h3 hle
          obtain ⟨g3, g4⟩ := sl_take (n := n) h4 hle
          refine ⟨⟨_, r1', g1.same (he.same k1), fun _ => g2⟩, ?_, fun _ => ?_⟩
          · simp only [List.map, SV.val, upd, pack]; exact g3.same (he.same k1)
          · simp only [List.map, SV.val, upd, pack]; exact g4

end
end Go.Kb

/- What kbin's readers do: numbers in groups of seven bits, lengths, texts, octets, lists' lengths. -/
namespace Go.Kb
open Go.Lx Go.Nx Go.Km Go.Mx

set_option linter.unusedSimpArgs false
set_option linter.unusedVariables false

section
variable {P : Program}

/-- kbin.Uvarint: the number and how many octets it took; none, or fewer, if it is no such number. -/
def KUv (P : Program) (f : FuncId) : Prop :=
  ∀ (ok : Nat → Prop) (w : World) (v : Value) (bs : Bs) (K : Value → World → Prop), Sl ok w v bs →
    (∀ (n k : Int), (match rdUv bs with | some (x, r) => n = x ∧ k = ((bs.length - r.length : Nat) : Int) | none => k ≤ 0) → K (.tuple #[.int .u32 n, .int .i64 k]) w) → In.wp P (.call f) [v] w K

theorem rdV_suffix : ∀ (f : Nat) (bs : Bs) (n : Nat) (r : Bs), rdV f bs = some (n, r) → r <:+ bs := by
  intro f
  induction f with
  | zero =>
    intro bs n r h
    cases bs with
    | nil => simp [rdV] at h
    | cons b t =>
      simp only [rdV] at h
      split at h
      · cases h; exact List.suffix_cons _ _
      · cases h
  | succ f ih =>
    intro bs n r h
    cases bs with
    | nil => simp [rdV] at h
    | cons b t =>
      simp only [rdV] at h
      split at h
      · cases h; exact List.suffix_cons _ _
      · simp only [Option.map_eq_some_iff] at h
        obtain ⟨⟨m, r'⟩, h1, h2⟩ := h
        cases h2
        exact (ih t m _ h1).trans (List.suffix_cons _ _)

theorem drop_suffix {r bs : Bs} (h : r <:+ bs) : bs.drop (bs.length - r.length) = r := (List.suffix_iff_eq_drop.1 h).symm

theorem rUvarint_ok (hn : Named P) {I : Ids} {f : FuncId} (hf : fnP P f 1 = some (p_rUvarint I)) (hu : KUv P I.uvarint) : Reads P f rdUv (natRep .u32) (· = .int .u32 0) := by
  intro ok w R nn s K he hs hk
  refine calls_of_np hn (vs := [ptr R]) hf fun η hη => ?_
  have h0 : η 0 = ptr R := hη 0 (by simp)
  obtain ⟨src, hrow, hsl, hbad⟩ := rd_row hs
  obtain ⟨a, c, hsrc, hc⟩ := sl_slice hsl
  refine ⟨⟨_, h0⟩, ?_⟩
  refine np_op (vs := [ptr R]) (by simp [SV.val, h0, Addr.add]) (wp_load hrow rfl ?_)
  refine np_op (vs := [src]) (by simp [SV.val, upd]) (hu ok w src (s.getD []) _ hsl fun n k hnk => ?_)
  refine np_op (vs := [.tuple #[.int .u32 n, .int .i64 k]]) (by simp [SV.val, upd]) ⟨_, _, rfl, rfl, ?_⟩
  refine np_op (vs := [.tuple #[.int .u32 n, .int .i64 k]]) (by simp [SV.val, upd]) ⟨_, _, rfl, rfl, ?_⟩
  refine np_op (vs := [.int .i64 k, .int .i64 0]) (by simp [SV.val, upd]) ⟨.i64, _, _, _, rfl, rfl, ?_⟩
  refine np_ite (decide (k ≤ 0)) (by simp [SV.val, upd]) ?_
  have hnone : s.bind rdUv = rdUv (s.getD []) := by
    cases s with
    | none => rfl
    | some bs => rfl
  cases hr : rdUv (s.getD []) with
  | none =>
    rw [hr] at hnk
    simp only [hnk, decide_true, if_true]
    refine spoil hrow (by simp [upd, h0]) (by simp) fun w1 k1 r1 => ?_
    refine hk _ w1 k1 ?_
    simp only [ReadEnd, hnone, hr]
    exact ⟨r1, rfl⟩
  | some x =>
    obtain ⟨x, r⟩ := x
    rw [hr] at hnk
    obtain ⟨rfl, rfl⟩ := hnk
    have hlt := (rdUv_some hr).2
    have hsuf := rdV_suffix 4 _ _ _ hr
    have hne : ¬ (((((s.getD []).length - r.length : Nat) : Int)) ≤ 0) := by omega
    simp only [hne, decide_false, Bool.false_eq_true, if_false]
    cases s with
    | none => simp [rdUv, rdV] at hr
    | some bs =>
      simp only [Option.getD_some, Option.bind_some] at *
      obtain ⟨ad, c', h2, h3, h4⟩ := sl_some hsl (by intro h; subst h; simp at hlt)
      refine np_op (vs := [ptr R]) (by simp [SV.val, upd, h0, add0]) (wp_load hrow rfl ?_)
      refine np_op (vs := [src, .int .i64 ((bs.length - r.length : Nat) : Int)]) (by simp [SV.val, upd]) ⟨some ad, bs.length, c', _, by rw [h2], ?_⟩
      simp only [bnd, if_true, Bool.false_eq_true, if_false]
      refine ⟨.i64, bs.length - r.length, [], rfl, rfl, by omega, h3, Nat.le_refl _, ?_⟩
      obtain ⟨g1, g2⟩ := sl_drop (n := bs.length - r.length) h4 h3 (by omega)
      refine np_op (vs := [ptr R, _]) (by simp [SV.val, upd, h0, add0]) (wp_store hrow (Sl.fit g1) (by simp) fun w1 r1 k1 => ?_)
      refine hk _ w1 k1 ?_
      simp only [ReadEnd, Option.bind_some, hr]
      rw [drop_suffix hsuf] at g1
      refine ⟨rd_after (o := undef) he (by simpa [put, Value.cells] using r1) k1 g1 g2, ?_⟩
      simp [natRep, SV.val, upd, pack]

/-- A primitive's reader. -/
def PrimOk (P : Program) (f : FuncId) (p : Prim) : Prop := Reads P f (rdP p) (fun ok w x v => RepP ok w p x v) (Fit (width p))

theorem Reads.map {f : FuncId} {α β : Type} {dec : Bs → Option (α × Bs)} {rep : (Nat → Prop) → World → α → Value → Prop} {zr : Value → Prop} (h : Reads P f dec rep zr) (g : α → β) {dec' : Bs → Option (β × Bs)} {rep' : (Nat → Prop) → World → β → Value → Prop} {zr' : Value → Prop}
    (hd : ∀ bs, dec' bs = (dec bs).map fun p => (g p.1, p.2)) (hr : ∀ ok w x v, rep ok w x v → rep' ok w (g x) v) (hz : ∀ v, zr v → zr' v) : Reads P f dec' rep' zr' := by
  intro ok w R nn s K he hs hk
  refine h ok w R nn s K he hs fun v w' k hv => hk v w' k ?_
  have hb : s.bind dec' = (s.bind dec).map fun p => (g p.1, p.2) := by
    cases s with
    | none => rfl
    | some bs => exact hd bs
  unfold ReadEnd at hv ⊢
  rw [hb]
  cases hq : s.bind dec with
  | none => rw [hq] at hv; exact ⟨hv.1, hz v hv.2⟩
  | some x => rw [hq] at hv; exact ⟨hv.1, hr _ _ _ _ hv.2⟩

theorem prim_i8 {f : FuncId} (h : Reads P f (rdI 1) (intRep .i8) (· = .int .i8 0)) : PrimOk P f .i8 :=
  h.map (fun n => PV.i n) (fun bs => rfl) (fun ok w x v h => h) (fun v h => by subst h; exact Fit.one rfl rfl)
theorem prim_i16 {f : FuncId} (h : Reads P f (rdI 2) (intRep .i16) (· = .int .i16 0)) : PrimOk P f .i16 :=
  h.map (fun n => PV.i n) (fun bs => rfl) (fun ok w x v h => h) (fun v h => by subst h; exact Fit.one rfl rfl)
theorem prim_i32 {f : FuncId} (h : Reads P f (rdI 4) (intRep .i32) (· = .int .i32 0)) : PrimOk P f .i32 :=
  h.map (fun n => PV.i n) (fun bs => rfl) (fun ok w x v h => h) (fun v h => by subst h; exact Fit.one rfl rfl)
theorem prim_i64 {f : FuncId} (h : Reads P f (rdI 8) (intRep .i64) (· = .int .i64 0)) : PrimOk P f .i64 :=
  h.map (fun n => PV.i n) (fun bs => rfl) (fun ok w x v h => h) (fun v h => by subst h; exact Fit.one rfl rfl)
theorem prim_u16 {f : FuncId} (h : Reads P f (rdU 2) (natRep .u16) (· = .int .u16 0)) : PrimOk P f .u16 :=
  h.map (fun n => PV.i n) (fun bs => rfl) (fun ok w x v h => h) (fun v h => by subst h; exact Fit.one rfl rfl)
theorem prim_bool {f : FuncId} (h : Reads P f rdB boolRep (· = .bool false)) : PrimOk P f .bool :=
  h.map (fun b => PV.b b) (fun bs => by simp [rdP, rdB]; rfl) (fun ok w x v h => h) (fun v h => by subst h; exact Fit.one rfl rfl)

theorem wrap64 (n : Int) (h1 : -9223372036854775808 ≤ n) (h2 : n < 9223372036854775808) : IntKind.i64.wrap n = n := by rw [IntKind.wrap_i64]; omega

/-- A length was read. -/
def LenEnd (ok : Nat → Prop) (R : Nat) (c : Bool) (k : Nat) (s : Option Bs) (l : Int) (w' : World) : Prop :=
  match s.bind (rdLen c k) with
  | some (x, r) => Rd ok w' R true (some r) ∧ l = x
  | none => Rd ok w' R false none ∧ l = if c then -1 else 0

/-- The ways in which a length is read. -/
theorem int_len {f : FuncId} {kd : IntKind} {k : Nat} (hk0 : 0 < k) (h : Reads P f (rdI k) (intRep kd) (· = .int kd 0)) {ok : Nat → Prop} {w : World} {R : Nat} {nn : Bool} {s : Option Bs} {K : Value → World → Prop} (he : Env ok w R) (hs : Rd ok w R nn s)
    (hk : ∀ (l : Int) w', Keep [R] w w' → LenEnd ok R false k s l w' → (-(2 ^ (8 * k - 1) : Int) ≤ l ∧ l < 2 ^ (8 * k - 1)) → K (.int kd l) w') : In.wp P (.call f) [ptr R] w K := by
  refine h ok w R nn s K he hs fun v w' kp hv => ?_
  unfold ReadEnd at hv
  have hd : s.bind (rdLen false k) = s.bind (rdI k) := by cases s <;> rfl
  have hpos : (0 : Int) < 2 ^ (8 * k - 1) := by
    have : 0 < (2 : Nat) ^ (8 * k - 1) := Nat.pow_pos (by omega)
    have := Int.ofNat_lt.2 this
    simpa using this
  cases hq : s.bind (rdI k) with
  | none =>
    rw [hq] at hv
    obtain ⟨h1, rfl⟩ := hv
    refine hk 0 w' kp ?_ ⟨by omega, hpos⟩
    unfold LenEnd
    rw [hd, hq]
    exact ⟨h1, rfl⟩
  | some x =>
    obtain ⟨x, r⟩ := x
    rw [hq] at hv
    obtain ⟨h1, h2⟩ := hv
    have h2 : v = .int kd x := h2
    subst h2
    refine hk x w' kp ?_ ?_
    · unfold LenEnd
      rw [hd, hq]
      exact ⟨h1, rfl⟩
    · obtain ⟨bs, rfl, hb⟩ := Option.bind_eq_some_iff.1 hq
      exact (rdI_some hk0 hb).1

theorem uv_len {f : FuncId} (k : Nat) (h : Reads P f rdUv (natRep .u32) (· = .int .u32 0)) {ok : Nat → Prop} {w : World} {R : Nat} {nn : Bool} {s : Option Bs} {K : Value → World → Prop} (he : Env ok w R) (hs : Rd ok w R nn s)
    (hk : ∀ (n : Nat) w', Keep [R] w w' → LenEnd ok R true k s ((n : Int) - 1) w' → n < 2 ^ 32 → K (.int .u32 (n : Int)) w') : In.wp P (.call f) [ptr R] w K := by
  refine h ok w R nn s K he hs fun v w' kp hv => ?_
  unfold ReadEnd at hv
  have hd : s.bind (rdLen true k) = (s.bind rdUv).map fun p => ((p.1 : Int) - 1, p.2) := by cases s <;> rfl
  cases hq : s.bind rdUv with
  | none =>
    rw [hq] at hv
    obtain ⟨h1, rfl⟩ := hv
    refine hk 0 w' kp ?_ (by omega)
    unfold LenEnd
    rw [hd, hq]
    exact ⟨h1, by simp⟩
  | some x =>
    obtain ⟨x, r⟩ := x
    rw [hq] at hv
    obtain ⟨h1, h2⟩ := hv
    have h2 : v = .int .u32 (x : Int) := h2
    subst h2
    refine hk x w' kp ?_ ?_
    · unfold LenEnd
      rw [hd, hq]
      exact ⟨h1, rfl⟩
    · obtain ⟨bs, rfl, hb⟩ := Option.bind_eq_some_iff.1 hq
      exact (rdUv_some hb).1

/-- Behind a length, so many octets. -/
def OctEnd (ok : Nat → Prop) (R : Nat) (c : Bool) (k : Nat) (s : Option Bs) (v : Value) (w' : World) : Prop :=
  match s.bind fun bs => (rdLen c k bs).bind fun p => (rdSpan p.1 p.2) with
  | some (q, r) => Rd ok w' R true (some r) ∧ Sl ok w' v q ∧ v ≠ .slice none 0 0
  | none => Rd ok w' R false none ∧ v = .slice none 0 0

theorem span_len {f : FuncId} (hsp : Spans P f) {c : Bool} {k : Nat} {ok : Nat → Prop} {w : World} {R : Nat} {s : Option Bs} {l : Int} {K : Value → World → Prop} (he : Env ok w R) (hl : LenEnd ok R c k s l w)
    (hk : ∀ v w', Keep [R] w w' → OctEnd ok R c k s v w' → K v w') : In.wp P (.call f) [ptr R, .int .i64 l] w K := by
  have hd : (s.bind fun bs => (rdLen c k bs).bind fun p => (rdSpan p.1 p.2)) = (s.bind (rdLen c k)).bind fun p => rdSpan p.1 p.2 := by cases s <;> rfl
  unfold LenEnd at hl
  cases hq : s.bind (rdLen c k) with
  | none =>
    rw [hq] at hl
    obtain ⟨h1, _⟩ := hl
    refine hsp ok w R false none l K he h1 fun v w' kp hv => hk v w' kp ?_
    unfold OctEnd
    rw [hd, hq]
    exact hv
  | some x =>
    obtain ⟨x, r⟩ := x
    rw [hq] at hl
    obtain ⟨h1, rfl⟩ := hl
    refine hsp ok w R true (some r) l K he h1 fun v w' kp hv => hk v w' kp ?_
    unfold SpanEnd at hv
    simp only [Option.bind_some] at hv
    unfold OctEnd
    rw [hd, hq]
    simp only [Option.bind_some]
    cases hr : rdSpan l r with
    | none => rw [hr] at hv; exact hv
    | some y => rw [hr] at hv; exact ⟨hv.1, hv.2.1, hv.2.2 trivial⟩

/-- Octets made a text. -/
theorem oct_str {ok : Nat → Prop} {R : Nat} {c : Bool} {s : Option Bs} {v : Value} {w : World} {K : Value → World → Prop} (h : OctEnd ok R c 2 s v w) (hk : ∀ u, ReadEnd ok R (rdP (.str c)) (fun ok w x v => RepP ok w (.str c) x v) (Fit (width (.str c))) s u w → K u w) : In.wp P .toStr [v] w K := by
  have hd : s.bind (rdP (.str c)) = (s.bind fun bs => (rdLen c 2 bs).bind fun p => (rdSpan p.1 p.2)).map fun q => (PV.by q.1, q.2) := by
    cases s with
    | none => rfl
    | some bs => simp only [Option.bind_some, rdP]; cases rdLen c 2 bs <;> rfl
  unfold OctEnd at h
  cases hq : (s.bind fun bs => (rdLen c 2 bs).bind fun p => (rdSpan p.1 p.2)) with
  | none =>
    rw [hq] at h
    obtain ⟨h1, rfl⟩ := h
    refine ⟨_, [], rfl, .inl ⟨rfl, rfl⟩, hk _ ?_⟩
    unfold ReadEnd
    rw [hd, hq]
    exact ⟨h1, Fit.one rfl rfl⟩
  | some x =>
    obtain ⟨q, r⟩ := x
    rw [hq] at h
    refine ⟨_, q, rfl, h.2.1.sl0, hk _ ?_⟩
    unfold ReadEnd
    rw [hd, hq]
    exact ⟨h.1, rfl⟩

theorem rString_ok (hn : Named P) {I : Ids} {f : FuncId} (hf : fnP P f 1 = some (p_rString I)) (hi : Reads P I.rInt16 (rdI 2) (intRep .i16) (· = .int .i16 0)) (hsp : Spans P I.rSpan) : PrimOk P f (.str false) := by
  intro ok w R nn s K he hs hk
  refine calls_of_np hn (vs := [ptr R]) hf fun η hη => ?_
  have h0 : η 0 = ptr R := hη 0 (by simp)
  refine np_op (vs := [ptr R]) (by simp [SV.val, h0]) (int_len (by omega) hi he hs fun l w1 k1 h1 hr => ?_)
  refine np_op (vs := [.int .i16 l]) (by simp [SV.val, upd]) ⟨.i16, l, rfl, ?_⟩
  rw [wrap64 l (by simp at hr; omega) (by simp at hr; omega)]
  refine np_op (vs := [ptr R, .int .i64 l]) (by simp [SV.val, upd, h0]) (span_len hsp (he.keep k1) h1 fun v w2 k2 h2 => ?_)
  refine np_op (vs := [v]) (by simp [SV.val, upd]) (oct_str h2 fun u h3 => ?_)
  exact hk _ w2 (k1.then k2) (by simpa [SV.val, upd, pack] using h3)

theorem rCompactString_ok (hn : Named P) {I : Ids} {f : FuncId} (hf : fnP P f 1 = some (p_rCompactString I)) (hu : Reads P I.rUvarint rdUv (natRep .u32) (· = .int .u32 0)) (hsp : Spans P I.rSpan) : PrimOk P f (.str true) := by
  intro ok w R nn s K he hs hk
  refine calls_of_np hn (vs := [ptr R]) hf fun η hη => ?_
  have h0 : η 0 = ptr R := hη 0 (by simp)
  refine np_op (vs := [ptr R]) (by simp [SV.val, h0]) (uv_len 2 hu he hs fun n w1 k1 h1 hr => ?_)
  refine np_op (vs := [.int .u32 (n : Int)]) (by simp [SV.val, upd]) ⟨.u32, n, rfl, ?_⟩
  rw [wrap64 n (by omega) (by omega)]
  refine np_op (vs := [.int .i64 (n : Int), .int .i64 1]) (by simp [SV.val, upd]) ⟨.i64, _, _, _, rfl, rfl, ?_⟩
  rw [wrap64 _ (by omega) (by omega)]
  refine np_op (vs := [ptr R, .int .i64 ((n : Int) - 1)]) (by simp [SV.val, upd, h0]) (span_len hsp (he.keep k1) h1 fun v w2 k2 h2 => ?_)
  refine np_op (vs := [v]) (by simp [SV.val, upd]) (oct_str h2 fun u h3 => ?_)
  exact hk _ w2 (k1.then k2) (by simpa [SV.val, upd, pack] using h3)

end
end Go.Kb

/- What kbin's readers do: texts and octets that may be null, lists' lengths, the reader's word. -/
namespace Go.Kb
open Go.Lx Go.Nx Go.Km Go.Mx

set_option linter.unusedSimpArgs false
set_option linter.unusedVariables false

section
variable {P : Program}

/-- A primitive's read ended so. -/
abbrev PEnd (ok : Nat → Prop) (R : Nat) (p : Prim) (s : Option Bs) (v : Value) (w : World) : Prop := ReadEnd ok R (rdP p) (fun ok w x v => RepP ok w p x v) (Fit (width p)) s v w

theorem bind_assoc' {α β γ : Type} (s : Option α) (f : α → Option β) (g : β → Option γ) : (s.bind fun a => (f a).bind g) = (s.bind f).bind g := by cases s <;> rfl

theorem null_str {ok : Nat → Prop} {R : Nat} {c : Bool} {s : Option Bs} {l : Int} {w : World} (h : LenEnd ok R c 2 s l w) (hl : l < 0) : PEnd ok R (.nstr c) s (.pointer none) w := by
  have hd : s.bind (rdP (.nstr c)) = (s.bind (rdLen c 2)).bind fun p => if p.1 < 0 then some (PV.o none, p.2) else (rdSpan p.1 p.2).map fun q => (PV.o (some q.1), q.2) := by cases s <;> rfl
  unfold LenEnd at h
  unfold PEnd ReadEnd
  rw [hd]
  cases hq : s.bind (rdLen c 2) with
  | none => rw [hq] at h; exact ⟨h.1, Fit.one rfl rfl⟩
  | some x =>
    obtain ⟨x, r⟩ := x
    rw [hq] at h
    obtain ⟨h1, rfl⟩ := h
    simp only [Option.bind_some, hl, if_true]
    exact ⟨h1, rfl⟩

theorem null_byt {ok : Nat → Prop} {R : Nat} {c : Bool} {s : Option Bs} {l : Int} {w : World} (h : LenEnd ok R c 4 s l w) (hl : l < 0) : PEnd ok R (.nbyt c) s (.slice none 0 0) w := by
  have hd : s.bind (rdP (.nbyt c)) = (s.bind (rdLen c 4)).bind fun p => if p.1 < 0 then some (PV.o none, p.2) else (rdSpan p.1 p.2).map fun q => (PV.o (some q.1), q.2) := by cases s <;> rfl
  unfold LenEnd at h
  unfold PEnd ReadEnd
  rw [hd]
  cases hq : s.bind (rdLen c 4) with
  | none => rw [hq] at h; exact ⟨h.1, Fit.one rfl rfl⟩
  | some x =>
    obtain ⟨x, r⟩ := x
    rw [hq] at h
    obtain ⟨h1, rfl⟩ := h
    simp only [Option.bind_some, hl, if_true]
    exact ⟨h1, rfl⟩

/-- The length that was read is none below zero. -/
def LenPos (c : Bool) (k : Nat) (s : Option Bs) : Prop := ∀ x r, s.bind (rdLen c k) = some (x, r) → ¬ x < 0

theorem LenEnd.pos {ok : Nat → Prop} {R : Nat} {c : Bool} {k : Nat} {s : Option Bs} {l : Int} {w : World} (h : LenEnd ok R c k s l w) (hl : ¬ l < 0) : LenPos c k s := by
  intro x r hx
  unfold LenEnd at h
  rw [hx] at h
  obtain ⟨_, rfl⟩ := h
  exact hl

theorem oct_nbyt {ok : Nat → Prop} {R : Nat} {c : Bool} {s : Option Bs} {v : Value} {w : World} (hp : LenPos c 4 s) (h : OctEnd ok R c 4 s v w) : PEnd ok R (.nbyt c) s v w := by
  have hd : s.bind (rdP (.nbyt c)) = (s.bind fun bs => (rdLen c 4 bs).bind fun p => (rdSpan p.1 p.2)).map fun q => (PV.o (some q.1), q.2) := by
    cases s with
    | none => rfl
    | some bs =>
      simp only [Option.bind_some, rdP]
      cases hl : rdLen c 4 bs with
      | none => rfl
      | some x => obtain ⟨x, r⟩ := x; simp only [Option.bind_some, if_neg (hp x r hl)]
  unfold OctEnd at h
  unfold PEnd ReadEnd
  rw [hd]
  cases hq : (s.bind fun bs => (rdLen c 4 bs).bind fun p => (rdSpan p.1 p.2)) with
  | none => rw [hq] at h; obtain ⟨h1, rfl⟩ := h; exact ⟨h1, Fit.one rfl rfl⟩
  | some x => obtain ⟨q, r⟩ := x; rw [hq] at h; exact ⟨h.1, h.2⟩

theorem oct_nstr {ok : Nat → Prop} {R : Nat} {c : Bool} {s : Option Bs} {v : Value} {w : World} (he : Env ok w R) (hp : LenPos c 2 s) (h : OctEnd ok R c 2 s v w) :
    ∃ q, Sl0 w v q ∧ ∀ b w1 w2, w.heap.size ≤ b → Keep [] w w1 → Keep [b] w1 w2 → Row w2 b [.string ⟨q.toArray⟩] → PEnd ok R (.nstr c) s (ptr b) w2 ∧ Keep [R] w w2 := by
  have hd : s.bind (rdP (.nstr c)) = (s.bind fun bs => (rdLen c 2 bs).bind fun p => (rdSpan p.1 p.2)).map fun q => (PV.o (some q.1), q.2) := by
    cases s with
    | none => rfl
    | some bs =>
      simp only [Option.bind_some, rdP]
      cases hl : rdLen c 2 bs with
      | none => rfl
      | some x => obtain ⟨x, r⟩ := x; simp only [Option.bind_some, if_neg (hp x r hl)]
  have hkeep : ∀ b w1 w2, w.heap.size ≤ b → Keep [] w w1 → Keep [b] w1 w2 → Keep [] w w2 := by
    intro b w1 w2 hb k1 k2
    refine k1.trans k2 fun x hx hlt => ?_
    have : x = b := by simpa using hx
    omega
  unfold OctEnd at h
  cases hq : (s.bind fun bs => (rdLen c 2 bs).bind fun p => (rdSpan p.1 p.2)) with
  | none =>
    rw [hq] at h
    obtain ⟨h1, rfl⟩ := h
    refine ⟨[], .inl ⟨rfl, rfl⟩, fun b w1 w2 hb k1 k2 hr => ?_⟩
    have k := hkeep b w1 w2 hb k1 k2
    refine ⟨?_, k.mono (by simp)⟩
    unfold PEnd ReadEnd
    rw [hd, hq]
    exact ⟨h1.keep k (by simp) (by simp), Fit.one rfl rfl⟩
  | some x =>
    obtain ⟨q, r⟩ := x
    rw [hq] at h
    refine ⟨q, h.2.1.sl0, fun b w1 w2 hb k1 k2 hr => ?_⟩
    have k := hkeep b w1 w2 hb k1 k2
    refine ⟨?_, k.mono (by simp)⟩
    unfold PEnd ReadEnd
    rw [hd, hq]
    exact ⟨h.1.keep k (by simp) (by simp), b, rfl, he.new b hb, hr⟩

theorem rNullableString_ok (hn : Named P) {I : Ids} {f : FuncId} (hf : fnP P f 1 = some (p_rNullableString I)) (hi : Reads P I.rInt16 (rdI 2) (intRep .i16) (· = .int .i16 0)) (hsp : Spans P I.rSpan) : PrimOk P f (.nstr false) := by
  intro ok w R nn s K he hs hk
  refine calls_of_np hn (vs := [ptr R]) hf fun η hη => ?_
  have h0 : η 0 = ptr R := hη 0 (by simp)
  refine np_op (vs := [ptr R]) (by simp [SV.val, h0]) (int_len (by omega) hi he hs fun l w1 k1 h1 hr => ?_)
  refine np_op (vs := [.int .i16 l, .int .i16 0]) (by simp [SV.val, upd]) ⟨.i16, _, _, _, rfl, rfl, ?_⟩
  refine np_ite (decide (l < 0)) (by simp [SV.val, upd]) ?_
  by_cases hl : l < 0
  · simp only [hl, decide_true, if_true]
    exact hk _ w1 k1 (null_str h1 hl)
  · simp only [hl, decide_false, Bool.false_eq_true, if_false]
    refine np_op (vs := [.int .i16 l]) (by simp [SV.val, upd]) ⟨.i16, l, rfl, ?_⟩
    rw [wrap64 l (by simp at hr; omega) (by simp at hr; omega)]
    refine np_op (vs := [ptr R, .int .i64 l]) (by simp [SV.val, upd, h0]) (span_len hsp (he.keep k1) h1 fun v w2 k2 h2 => ?_)
    obtain ⟨q, hq, hend⟩ := oct_nstr ((he.keep k1).keep k2) (h1.pos hl) h2
    refine np_op (vs := [v]) (by simp [SV.val, upd]) ⟨v, q, rfl, hq, ?_⟩
    refine np_op (vs := []) rfl (wp_alloc fun b w3 r3 hb k3 => ?_)
    refine ⟨⟨_, by simp [upd]; rfl⟩, ?_⟩
    refine np_op (vs := [ptr b, .string ⟨q.toArray⟩]) (by simp [SV.val, upd, add0]) (wp_store r3 (Fit.one rfl rfl) (by simp) fun w4 r4 k4 => ?_)
    obtain ⟨g1, g2⟩ := hend b w3 w4 hb k3 k4 (by simpa [put, Value.cells] using r4)
    refine hk _ w4 ((k1.then k2).then g2) ?_
    simpa [SV.val, upd, pack, add0] using g1

theorem rCompactNullableString_ok (hn : Named P) {I : Ids} {f : FuncId} (hf : fnP P f 1 = some (p_rCompactNullableString I)) (hu : Reads P I.rUvarint rdUv (natRep .u32) (· = .int .u32 0)) (hsp : Spans P I.rSpan) : PrimOk P f (.nstr true) := by
  intro ok w R nn s K he hs hk
  refine calls_of_np hn (vs := [ptr R]) hf fun η hη => ?_
  have h0 : η 0 = ptr R := hη 0 (by simp)
  refine np_op (vs := [ptr R]) (by simp [SV.val, h0]) (uv_len 2 hu he hs fun n w1 k1 h1 hr => ?_)
  refine np_op (vs := [.int .u32 (n : Int)]) (by simp [SV.val, upd]) ⟨.u32, n, rfl, ?_⟩
  rw [wrap64 n (by omega) (by omega)]
  refine np_op (vs := [.int .i64 (n : Int), .int .i64 1]) (by simp [SV.val, upd]) ⟨.i64, _, _, _, rfl, rfl, ?_⟩
  rw [wrap64 _ (by omega) (by omega)]
  generalize (n : Int) - 1 = l at *
  refine np_op (vs := [.int .i64 l, .int .i64 0]) (by simp [SV.val, upd]) ⟨.i64, _, _, _, rfl, rfl, ?_⟩
  refine np_ite (decide (l < 0)) (by simp [SV.val, upd]) ?_
  by_cases hl : l < 0
  · simp only [hl, decide_true, if_true]
    exact hk _ w1 k1 (null_str h1 hl)
  · simp only [hl, decide_false, Bool.false_eq_true, if_false]
    refine np_op (vs := [ptr R, .int .i64 l]) (by simp [SV.val, upd, h0]) (span_len hsp (he.keep k1) h1 fun v w2 k2 h2 => ?_)
    obtain ⟨q, hq, hend⟩ := oct_nstr ((he.keep k1).keep k2) (h1.pos hl) h2
    refine np_op (vs := [v]) (by simp [SV.val, upd]) ⟨v, q, rfl, hq, ?_⟩
    refine np_op (vs := []) rfl (wp_alloc fun b w3 r3 hb k3 => ?_)
    refine ⟨⟨_, by simp [upd]; rfl⟩, ?_⟩
    refine np_op (vs := [ptr b, .string ⟨q.toArray⟩]) (by simp [SV.val, upd, add0]) (wp_store r3 (Fit.one rfl rfl) (by simp) fun w4 r4 k4 => ?_)
    obtain ⟨g1, g2⟩ := hend b w3 w4 hb k3 k4 (by simpa [put, Value.cells] using r4)
    refine hk _ w4 ((k1.then k2).then g2) ?_
    simpa [SV.val, upd, pack, add0] using g1

theorem rNullableBytes_ok (hn : Named P) {I : Ids} {f : FuncId} (hf : fnP P f 1 = some (p_rNullableBytes I)) (hi : Reads P I.rInt32 (rdI 4) (intRep .i32) (· = .int .i32 0)) (hsp : Spans P I.rSpan) : PrimOk P f (.nbyt false) := by
  intro ok w R nn s K he hs hk
  refine calls_of_np hn (vs := [ptr R]) hf fun η hη => ?_
  have h0 : η 0 = ptr R := hη 0 (by simp)
  refine np_op (vs := [ptr R]) (by simp [SV.val, h0]) (int_len (by omega) hi he hs fun l w1 k1 h1 hr => ?_)
  refine np_op (vs := [.int .i32 l, .int .i32 0]) (by simp [SV.val, upd]) ⟨.i32, _, _, _, rfl, rfl, ?_⟩
  refine np_ite (decide (l < 0)) (by simp [SV.val, upd]) ?_
  by_cases hl : l < 0
  · simp only [hl, decide_true, if_true]
    exact hk _ w1 k1 (null_byt h1 hl)
  · simp only [hl, decide_false, Bool.false_eq_true, if_false]
    refine np_op (vs := [.int .i32 l]) (by simp [SV.val, upd]) ⟨.i32, l, rfl, ?_⟩
    rw [wrap64 l (by simp at hr; omega) (by simp at hr; omega)]
    refine np_op (vs := [ptr R, .int .i64 l]) (by simp [SV.val, upd, h0]) (span_len hsp (he.keep k1) h1 fun v w2 k2 h2 => ?_)
    exact hk _ w2 (k1.then k2) (by simpa [SV.val, upd, pack] using oct_nbyt (h1.pos hl) h2)

theorem rCompactNullableBytes_ok (hn : Named P) {I : Ids} {f : FuncId} (hf : fnP P f 1 = some (p_rCompactNullableBytes I)) (hu : Reads P I.rUvarint rdUv (natRep .u32) (· = .int .u32 0)) (hsp : Spans P I.rSpan) : PrimOk P f (.nbyt true) := by
  intro ok w R nn s K he hs hk
  refine calls_of_np hn (vs := [ptr R]) hf fun η hη => ?_
  have h0 : η 0 = ptr R := hη 0 (by simp)
  refine np_op (vs := [ptr R]) (by simp [SV.val, h0]) (uv_len 4 hu he hs fun n w1 k1 h1 hr => ?_)
  refine np_op (vs := [.int .u32 (n : Int)]) (by simp [SV.val, upd]) ⟨.u32, n, rfl, ?_⟩
  rw [wrap64 n (by omega) (by omega)]
  refine np_op (vs := [.int .i64 (n : Int), .int .i64 1]) (by simp [SV.val, upd]) ⟨.i64, _, _, _, rfl, rfl, ?_⟩
  rw [wrap64 _ (by omega) (by omega)]
  generalize (n : Int) - 1 = l at *
  refine np_op (vs := [.int .i64 l, .int .i64 0]) (by simp [SV.val, upd]) ⟨.i64, _, _, _, rfl, rfl, ?_⟩
  refine np_ite (decide (l < 0)) (by simp [SV.val, upd]) ?_
  by_cases hl : l < 0
  · simp only [hl, decide_true, if_true]
    exact hk _ w1 k1 (null_byt h1 hl)
  · simp only [hl, decide_false, Bool.false_eq_true, if_false]
    refine np_op (vs := [ptr R, .int .i64 l]) (by simp [SV.val, upd, h0]) (span_len hsp (he.keep k1) h1 fun v w2 k2 h2 => ?_)
    exact hk _ w2 (k1.then k2) (by simpa [SV.val, upd, pack] using oct_nbyt (h1.pos hl) h2)

theorem wp_bsl {w : World} {e : TypeId} {bs : Bs} {K : Value → World → Prop} (hk : ∀ b w', w.heap.size ≤ b → Keep [] w w' → Row w' b (bs.map u8) → K (.slice (some ⟨b, 0, none⟩) bs.length bs.length) w') : In.wp P (.bsl e) (bs.map u8) w K := by
  refine ⟨fun v hv => ?_, ?_⟩
  · obtain ⟨b, _, rfl⟩ := List.mem_map.1 hv
    exact ⟨_, rfl⟩
  · obtain ⟨h1, h2⟩ := alloc_row (w := w) (bs.map u8) e
    have := hk _ _ (Nat.le_refl _) h2 h1
    simpa using this

theorem row_bytes {ok : Nat → Prop} {w : World} {b : Nat} {bs : Bs} (h : Row w b (bs.map u8)) (hok : ok b) : BytesIn ok w ⟨b, 0, none⟩ bs := by
  refine ⟨h.lt, hok, fun j hj => ?_⟩
  rw [Addr.add_mid]
  exact h.cell (by simp [hj])

theorem null_bytE {ok : Nat → Prop} {R : Nat} {c : Bool} {s : Option Bs} {w w' : World} {b : Nat} (he : Env ok w R) (h : LenEnd ok R c 4 s (-1) w) (hb : w.heap.size ≤ b) (k : Keep [] w w') (hrow : Row w' b (([] : Bs).map u8)) :
    PEnd ok R (.byt c) s (.slice (some ⟨b, 0, none⟩) 0 0) w' := by
  have hd : s.bind (rdP (.byt c)) = (s.bind (rdLen c 4)).bind fun p => if p.1 = -1 then some (PV.by [], p.2) else (rdSpan p.1 p.2).map fun q => (PV.by q.1, q.2) := by cases s <;> rfl
  unfold LenEnd at h
  unfold PEnd ReadEnd
  rw [hd]
  cases hq : s.bind (rdLen c 4) with
  | none => rw [hq] at h; exact ⟨h.1.keep k (by simp) (by simp), Fit.one rfl rfl⟩
  | some x =>
    obtain ⟨x, r⟩ := x
    rw [hq] at h
    obtain ⟨h1, h2⟩ := h
    simp only [Option.bind_some, ← h2, if_true]
    exact ⟨h1.keep k (by simp) (by simp), .inr ⟨_, 0, rfl, Nat.le_refl _, row_bytes hrow (he.new b hb)⟩⟩

theorem oct_byt {ok : Nat → Prop} {R : Nat} {c : Bool} {s : Option Bs} {v : Value} {l : Int} {w0 w : World} (hl : LenEnd ok R c 4 s l w0) (hp : l ≠ -1) (h : OctEnd ok R c 4 s v w) : PEnd ok R (.byt c) s v w := by
  have hp' : ∀ x r, s.bind (rdLen c 4) = some (x, r) → x ≠ -1 := by
    intro x r hx
    unfold LenEnd at hl
    rw [hx] at hl
    obtain ⟨_, rfl⟩ := hl
    exact hp
  have hd : s.bind (rdP (.byt c)) = (s.bind fun bs => (rdLen c 4 bs).bind fun p => (rdSpan p.1 p.2)).map fun q => (PV.by q.1, q.2) := by
    cases s with
    | none => rfl
    | some bs =>
      simp only [Option.bind_some, rdP]
      cases hl : rdLen c 4 bs with
      | none => rfl
      | some x => obtain ⟨x, r⟩ := x; simp only [Option.bind_some, if_neg (hp' x r hl)]
  unfold OctEnd at h
  unfold PEnd ReadEnd
  rw [hd]
  cases hq : (s.bind fun bs => (rdLen c 4 bs).bind fun p => (rdSpan p.1 p.2)) with
  | none => rw [hq] at h; obtain ⟨h1, rfl⟩ := h; exact ⟨h1, Fit.one rfl rfl⟩
  | some x => obtain ⟨q, r⟩ := x; rw [hq] at h; exact ⟨h.1, h.2.1⟩

theorem rBytes_ok (hn : Named P) {I : Ids} {f : FuncId} (hf : fnP P f 1 = some (p_rBytes I)) (hi : Reads P I.rInt32 (rdI 4) (intRep .i32) (· = .int .i32 0)) (hsp : Spans P I.rSpan) : PrimOk P f (.byt false) := by
  intro ok w R nn s K he hs hk
  refine calls_of_np hn (vs := [ptr R]) hf fun η hη => ?_
  have h0 : η 0 = ptr R := hη 0 (by simp)
  refine np_op (vs := [ptr R]) (by simp [SV.val, h0]) (int_len (by omega) hi he hs fun l w1 k1 h1 hr => ?_)
  refine np_op (vs := [.int .i32 l, .int .i32 (-1)]) (by simp [SV.val, upd]) ⟨.i32, _, _, _, rfl, rfl, ?_⟩
  refine np_ite (l == -1) (by simp [SV.val, upd]) ?_
  by_cases hl : l = -1
  · subst hl
    simp only [beq_self_eq_true, if_true]
    refine np_op (vs := ([] : Bs).map u8) rfl (wp_bsl fun b w2 hb k2 r2 => ?_)
    exact hk _ w2 (k1.then (k2.mono (by simp))) (by simpa [SV.val, upd, pack] using null_bytE (he.keep k1) h1 hb k2 r2)
  · have hl' : (l == -1) = false := by simpa using hl
    simp only [hl', Bool.false_eq_true, if_false]
    refine np_op (vs := [.int .i32 l]) (by simp [SV.val, upd]) ⟨.i32, l, rfl, ?_⟩
    rw [wrap64 l (by simp at hr; omega) (by simp at hr; omega)]
    refine np_op (vs := [ptr R, .int .i64 l]) (by simp [SV.val, upd, h0]) (span_len hsp (he.keep k1) h1 fun v w2 k2 h2 => ?_)
    exact hk _ w2 (k1.then k2) (by simpa [SV.val, upd, pack] using oct_byt h1 hl h2)

theorem rCompactBytes_ok (hn : Named P) {I : Ids} {f : FuncId} (hf : fnP P f 1 = some (p_rCompactBytes I)) (hu : Reads P I.rUvarint rdUv (natRep .u32) (· = .int .u32 0)) (hsp : Spans P I.rSpan) : PrimOk P f (.byt true) := by
  intro ok w R nn s K he hs hk
  refine calls_of_np hn (vs := [ptr R]) hf fun η hη => ?_
  have h0 : η 0 = ptr R := hη 0 (by simp)
  refine np_op (vs := [ptr R]) (by simp [SV.val, h0]) (uv_len 4 hu he hs fun n w1 k1 h1 hr => ?_)
  refine np_op (vs := [.int .u32 (n : Int)]) (by simp [SV.val, upd]) ⟨.u32, n, rfl, ?_⟩
  rw [wrap64 n (by omega) (by omega)]
  refine np_op (vs := [.int .i64 (n : Int), .int .i64 1]) (by simp [SV.val, upd]) ⟨.i64, _, _, _, rfl, rfl, ?_⟩
  rw [wrap64 _ (by omega) (by omega)]
  generalize (n : Int) - 1 = l at *
  refine np_op (vs := [.int .i64 l, .int .i64 (-1)]) (by simp [SV.val, upd]) ⟨.i64, _, _, _, rfl, rfl, ?_⟩
  refine np_ite (l == -1) (by simp [SV.val, upd]) ?_
  by_cases hl : l = -1
  · subst hl
    simp only [beq_self_eq_true, if_true]
    refine np_op (vs := ([] : Bs).map u8) rfl (wp_bsl fun b w2 hb k2 r2 => ?_)
    exact hk _ w2 (k1.then (k2.mono (by simp))) (by simpa [SV.val, upd, pack] using null_bytE (he.keep k1) h1 hb k2 r2)
  · have hl' : (l == -1) = false := by simpa using hl
    simp only [hl', Bool.false_eq_true, if_false]
    refine np_op (vs := [ptr R, .int .i64 l]) (by simp [SV.val, upd, h0]) (span_len hsp (he.keep k1) h1 fun v w2 k2 h2 => ?_)
    exact hk _ w2 (k1.then k2) (by simpa [SV.val, upd, pack] using oct_byt h1 hl h2)

theorem rInt64_ok (hn : Named P) {I : Ids} {f : FuncId} (hf : fnP P f 1 = some (p_rInt64 I)) (hi : Reads P I.rreadUint64 (rdU 8) (natRep .u64) (· = .int .u64 0)) : Reads P f (rdI 8) (intRep .i64) (· = .int .i64 0) := by
  intro ok w R nn s K he hs hk
  refine calls_of_np hn (vs := [ptr R]) hf fun η hη => ?_
  have h0 : η 0 = ptr R := hη 0 (by simp)
  have hd : s.bind (rdI 8) = (s.bind (rdU 8)).map fun p => (sgn (8 * 8) p.1, p.2) := by cases s <;> rfl
  refine np_op (vs := [ptr R]) (by simp [SV.val, h0]) (hi ok w R nn s _ he hs fun v w1 k1 h1 => ?_)
  unfold ReadEnd at h1
  cases hq : s.bind (rdU 8) with
  | none =>
    rw [hq] at h1
    obtain ⟨h1, rfl⟩ := h1
    refine np_op (vs := [.int .u64 0]) (by simp [SV.val, upd]) ⟨.u64, 0, rfl, ?_⟩
    refine hk _ w1 k1 ?_
    unfold ReadEnd
    rw [hd, hq]
    exact ⟨h1, by simp [SV.val, upd, pack, wrap64]⟩
  | some x =>
    obtain ⟨n, r⟩ := x
    rw [hq] at h1
    obtain ⟨h1, h2⟩ := h1
    have h2 : v = .int .u64 (n : Int) := h2
    subst h2
    refine np_op (vs := [.int .u64 (n : Int)]) (by simp [SV.val, upd]) ⟨.u64, _, rfl, ?_⟩
    refine hk _ w1 k1 ?_
    unfold ReadEnd
    rw [hd, hq]
    have hlt : n < 256 ^ 8 := by
      obtain ⟨bs, rfl, hb⟩ := Option.bind_eq_some_iff.1 hq
      exact (rdU_some hb).1
    refine ⟨h1, ?_⟩
    simp only [List.map, SV.val, upd, if_true, pack, intRep]
    rw [wrap_sgn .i64 rfl n (by simpa [IntKind.bits] using hlt)]
    rfl

/-! Lists' lengths: what is told is at most what is left. -/
def CountEnd (ok : Nat → Prop) (R : Nat) (c : Bool) (s : Option Bs) (v : Value) (w' : World) : Prop :=
  match s.bind (rdCount c) with
  | some (x, r) => Rd ok w' R true (some r) ∧ v = .int .i32 x
  | none => Rd ok w' R false none ∧ ∃ x, v = .int .i32 x ∧ x ≤ 0

def Counts (P : Program) (f : FuncId) (c : Bool) : Prop :=
  ∀ (ok : Nat → Prop) (w : World) (R : Nat) (nn : Bool) (s : Option Bs) (K : Value → World → Prop), Env ok w R → Rd ok w R nn s →
    (∀ v w', Keep [R] w w' → CountEnd ok R c s v w' → K v w') → In.wp P (.call f) [ptr R] w K

/-- The tail of both: the length against what is left. -/
theorem count_tail {ok : Nat → Prop} {w1 : World} {R : Nat} {s : Option Bs} {c : Bool} {l : Int} {K : Value → World → Prop} {η : Nat → Value} {i1 i2 i3 i4 i5 i6 i7 : Nat}
    (h0 : η 0 = ptr R) (hi7 : η i7 = .int .i32 l) (hne : i1 ≠ 0 ∧ i2 ≠ 0 ∧ i3 ≠ 0 ∧ i4 ≠ 0 ∧ i5 ≠ 0) (hord : i2 ≠ i1 ∧ i3 ≠ i2 ∧ i4 ≠ i3 ∧ i4 ≠ i2) (hi : i7 ≠ i1 ∧ i7 ≠ i2 ∧ i7 ≠ i3 ∧ i7 ≠ i4) {s' : Option Bs} {nn : Bool} (hr : Rd ok w1 R nn s') (hlr : -2147483648 ≤ l ∧ l < 2147483648)
    (hc : (match s' with | some r => ((s.bind (rdCount c)) = if (r.length : Int) < l then none else some (l, r)) ∧ nn = true | none => s.bind (rdCount c) = none ∧ l ≤ 0))
    (hk : ∀ v w', Keep [R] w1 w' → CountEnd ok R c s v w' → K v w') :
    (NP.chk 0 <| NP.op .load [.q 0 0] i1 <| NP.op .len [.s i1] i2 <| NP.op (.cv .i64) [.s i7] i3 <| NP.op (.bin .lss) [.s i2, .s i3] i4 <|
      NP.ite (.s i4) (.op (.store 1) [.q 0 1, .k (.bool true)] i5 <| .op (.store 1) [.q 0 0, .k (.slice none 0 0)] i6 <| .ret [.k (.int .i32 0)]) .nil <| NP.ret [.s i7]).wp P (postP [.direct] K) η w1 := by
  obtain ⟨src, hrow, hsl, hbad⟩ := rd_row hr
  obtain ⟨a, cp, hsrc, hcp⟩ := sl_slice hsl
  refine ⟨⟨_, h0⟩, ?_⟩
  refine np_op (vs := [ptr R]) (by simp [SV.val, h0, add0]) (wp_load hrow rfl ?_)
  refine np_op (vs := [src]) (by simp [SV.val, upd]) ⟨a, _, cp, by rw [hsrc], ?_⟩
  refine np_op (vs := [.int .i32 l]) (by simp [SV.val, upd, hi7, hi]) ⟨.i32, l, rfl, ?_⟩
  rw [wrap64 l (by omega) (by omega)]
  refine np_op (vs := [goInt (s'.getD []).length, .int .i64 l]) (by simp [SV.val, upd, hord, Ne.symm hord.2.1]) ⟨.i64, _, _, _, rfl, rfl, ?_⟩
  refine np_ite (decide (((s'.getD []).length : Int) < l)) (by simp [SV.val, upd]) ?_
  by_cases hlt : ((s'.getD []).length : Int) < l
  · simp only [hlt, decide_true, if_true]
    refine spoil hrow (by simp [upd, h0, Ne.symm hne.1, Ne.symm hne.2.1, Ne.symm hne.2.2.1, Ne.symm hne.2.2.2.1]) hne.2.2.2.2 fun w2 k2 r2 => ?_
    refine hk _ w2 k2 ?_
    have : s.bind (rdCount c) = none := by
      cases s' with
      | none => exact hc.1
      | some r => simp only [Option.getD_some] at hlt; rw [hc.1, if_pos hlt]
    unfold CountEnd
    rw [this]
    exact ⟨r2, 0, rfl, Int.le_refl _⟩
  · simp only [hlt, decide_false, Bool.false_eq_true, if_false]
    refine hk _ w1 (Keep.refl _ _) ?_
    simp only [List.map, SV.val, upd, hi, hi7, if_false, pack]
    unfold CountEnd
    cases s' with
    | none =>
      rw [hc.1]
      exact ⟨hr, l, rfl, hc.2⟩
    | some r =>
      simp only [Option.getD_some] at hlt
      rw [hc.1, if_neg hlt]
      obtain ⟨_, rfl⟩ := hc
      exact ⟨hr, rfl⟩

theorem rArrayLen_ok (hn : Named P) {I : Ids} {f : FuncId} (hf : fnP P f 1 = some (p_rArrayLen I)) (hi : Reads P I.rInt32 (rdI 4) (intRep .i32) (· = .int .i32 0)) : Counts P f false := by
  intro ok w R nn s K he hs hk
  refine calls_of_np hn (vs := [ptr R]) hf fun η hη => ?_
  have h0 : η 0 = ptr R := hη 0 (by simp)
  have hd : s.bind (rdCount false) = (s.bind (rdI 4)).bind fun p => if (p.2.length : Int) < p.1 then none else some p := by cases s <;> rfl
  refine np_op (vs := [ptr R]) (by simp [SV.val, h0]) (hi ok w R nn s _ he hs fun v w1 k1 h1 => ?_)
  unfold ReadEnd at h1
  cases hq : s.bind (rdI 4) with
  | none =>
    rw [hq] at h1
    obtain ⟨h1, rfl⟩ := h1
    refine count_tail (s := s) (c := false) (l := 0) (s' := none) (nn := false) (by simp [upd, h0]) (by simp [upd]) (by simp) (by simp) (by simp) h1 (by omega) ⟨by rw [hd, hq]; rfl, Int.le_refl _⟩ fun v w2 k2 h2 => hk v w2 (k1.then k2) h2
  | some x =>
    obtain ⟨x, r⟩ := x
    rw [hq] at h1
    obtain ⟨h1, h2⟩ := h1
    have h2 : v = .int .i32 x := h2
    subst h2
    have hr : -(2 ^ (8 * 4 - 1) : Int) ≤ x ∧ x < 2 ^ (8 * 4 - 1) := by
      obtain ⟨bs, rfl, hb⟩ := Option.bind_eq_some_iff.1 hq
      exact (rdI_some (by omega) hb).1
    refine count_tail (s := s) (c := false) (l := x) (s' := some r) (nn := true) (by simp [upd, h0]) (by simp [upd]) (by simp) (by simp) (by simp) h1 (by simp at hr; omega) ⟨by rw [hd, hq]; rfl, rfl⟩ fun v w2 k2 h2 => hk v w2 (k1.then k2) h2

theorem rCompactArrayLen_ok (hn : Named P) {I : Ids} {f : FuncId} (hf : fnP P f 1 = some (p_rCompactArrayLen I)) (hu : Reads P I.rUvarint rdUv (natRep .u32) (· = .int .u32 0)) : Counts P f true := by
  intro ok w R nn s K he hs hk
  refine calls_of_np hn (vs := [ptr R]) hf fun η hη => ?_
  have h0 : η 0 = ptr R := hη 0 (by simp)
  have hd : s.bind (rdCount true) = (s.bind rdUv).bind fun p => if (p.2.length : Int) < (if p.1 = 2147483648 then (2147483647 : Int) else sgn 32 p.1 - 1) then none else some (if p.1 = 2147483648 then (2147483647 : Int) else sgn 32 p.1 - 1, p.2) := by
    cases s with
    | none => rfl
    | some bs => simp only [Option.bind_some, rdCount, if_true]; cases rdUv bs <;> rfl
  refine np_op (vs := [ptr R]) (by simp [SV.val, h0]) (hu ok w R nn s _ he hs fun v w1 k1 h1 => ?_)
  unfold ReadEnd at h1
  cases hq : s.bind rdUv with
  | none =>
    rw [hq] at h1
    obtain ⟨h1, rfl⟩ := h1
    refine np_op (vs := [.int .u32 0]) (by simp [SV.val, upd]) ⟨.u32, 0, rfl, ?_⟩
    refine np_op (vs := [.int .i32 0, .int .i32 1]) (by simp [SV.val, upd]; rfl) ⟨.i32, _, _, _, rfl, rfl, ?_⟩
    refine count_tail (s := s) (c := true) (l := -1) (s' := none) (nn := false) (by simp [upd, h0]) (by simp [upd]; rfl) (by simp) (by simp) (by simp) h1 (by omega) ⟨by rw [hd, hq]; rfl, by omega⟩ fun v w2 k2 h2 => hk v w2 (k1.then k2) h2
  | some x =>
    obtain ⟨n, r⟩ := x
    rw [hq] at h1
    obtain ⟨h1, h2⟩ := h1
    have h2 : v = .int .u32 (n : Int) := h2
    subst h2
    have hlt : n < 2 ^ 32 := by
      obtain ⟨bs, rfl, hb⟩ := Option.bind_eq_some_iff.1 hq
      exact (rdUv_some hb).1
    refine np_op (vs := [.int .u32 (n : Int)]) (by simp [SV.val, upd]) ⟨.u32, n, rfl, ?_⟩
    rw [wrap_sgn .i32 rfl n (by simpa [IntKind.bits] using hlt)]
    refine np_op (vs := [.int .i32 (sgn 32 n), .int .i32 1]) (by simp [SV.val, upd]; rfl) ⟨.i32, _, _, _, rfl, rfl, ?_⟩
    have hw : IntKind.i32.wrap (sgn 32 n - 1) = if n = 2147483648 then (2147483647 : Int) else sgn 32 n - 1 := by
      have e : ∀ m : Int, IntKind.i32.wrap m = (m + 2147483648) % 4294967296 - 2147483648 := by
        intro m
        simp [IntKind.wrap, IntKind.bits, IntKind.signed]
        split <;> omega
      rw [e]
      unfold sgn
      split <;> split <;> omega
    rw [hw]
    refine count_tail (s := s) (c := true) (l := if n = 2147483648 then (2147483647 : Int) else sgn 32 n - 1) (s' := some r) (nn := true) (by simp [upd, h0]) (by simp [upd]) (by simp) (by simp) (by simp) h1 ?_ ⟨by rw [hd, hq]; rfl, rfl⟩ fun v w2 k2 h2 => hk v w2 (k1.then k2) h2
    unfold sgn
    split <;> (try split) <;> omega

/-! The reader's word. -/
def OkFn (P : Program) (f : FuncId) : Prop := ∀ (ok : Nat → Prop) (w : World) (R : Nat) (nn : Bool) (s : Option Bs) (K : Value → World → Prop), Rd ok w R nn s → K (.bool s.isSome) w → In.wp P (.call f) [ptr R] w K

theorem rOk_ok (hn : Named P) {I : Ids} {f : FuncId} (hf : fnP P f 1 = some (p_rOk I)) : OkFn P f := by
  intro ok w R nn s K hs hk
  refine calls_of_np hn (vs := [ptr R]) hf fun η hη => ?_
  have h0 : η 0 = ptr R := hη 0 (by simp)
  obtain ⟨src, hrow, _⟩ := rd_row hs
  refine ⟨⟨_, h0⟩, ?_⟩
  refine np_op (vs := [.pointer (some ⟨R, 1, none⟩)]) (by simp [SV.val, h0, Addr.add]) (wp_load hrow rfl ?_)
  refine np_op (vs := [.bool s.isNone]) (by simp [SV.val, upd]) ⟨_, rfl, ?_⟩
  have : (!s.isNone) = s.isSome := by cases s <;> rfl
  show K (pack _) w
  simpa [SV.val, upd, pack, this] using hk

/-- At the end: no error, or one, if the variable that is told holds one. -/
def CompleteFn (P : Program) (f : FuncId) (g : Nat) : Prop := ∀ (ok : Nat → Prop) (w : World) (R : Nat) (nn : Bool) (s : Option Bs) (K : Value → World → Prop) (err : Value), Rd ok w R nn s → w.cell? ⟨g, 0, none⟩ = some err →
  K (if s.isSome then .nilIface else err) w → In.wp P (.call f) [ptr R] w K

theorem rComplete_ok (hn : Named P) {I : Ids} {f : FuncId} (hf : fnP P f 1 = some (p_rComplete I)) : CompleteFn P f I.err := by
  intro ok w R nn s K err hs herr hk
  refine calls_of_np hn (vs := [ptr R]) hf fun η hη => ?_
  have h0 : η 0 = ptr R := hη 0 (by simp)
  obtain ⟨src, hrow, _⟩ := rd_row hs
  refine ⟨⟨_, h0⟩, ?_⟩
  refine np_op (vs := [.pointer (some ⟨R, 1, none⟩)]) (by simp [SV.val, h0, Addr.add]) (wp_load hrow rfl ?_)
  refine np_ite s.isNone (by simp [SV.val, upd]) ?_
  cases s with
  | none =>
    simp only [Option.isNone_none, if_true]
    refine np_op (vs := [.pointer (some ⟨I.err, 0, none⟩)]) (by simp [SV.val]) ⟨_, _, rfl, herr, ?_⟩
    show K (pack _) w
    simpa [SV.val, upd, pack] using hk
  | some bs =>
    simp only [Option.isNone_some, Bool.false_eq_true, if_false]
    show K (pack _) w
    simpa [SV.val, upd, pack] using hk

end
end Go.Kb

/- What kbin's writers do: numbers of a fixed width. -/
namespace Go.Kb
open Go.Lx Go.Nx Go.Km Go.Mx

set_option linter.unusedSimpArgs false
set_option linter.unusedVariables false

section
variable {P : Program}

/-- A slice of octets of its own. -/
def Own (w : World) (B : Nat) (e : TypeId) (d : Value) (out : Bs) : Prop := w.ownsRow B e 1 d out.length (out.map u8) ∧ B ≤ w.heap.size

theorem Own.below {w w' : World} {B : Nat} {e : TypeId} {d : Value} {out : Bs} (h : Own w B e d out) {n : Nat} {xs : List Value} (h' : w'.ownsRow B e 1 d n xs) (k : RowKit.Below B w w') (hx : xs = out.map u8) : Own w' B e d out := by
  subst hx
  refine ⟨?_, Nat.le_trans h.2 k.size⟩
  have hn : n = out.length := by have := h'.1; simpa using this.symm
  rw [← hn]; exact h'

abbrev lim : Nat := 140737488355328

theorem Gr.trans {a b c : World} {d d' d'' : Value} (h : Gr a d b d') (k : Gr b d' c d'') : Gr a d c d'' := by
  obtain ⟨h1, h2⟩ := h
  obtain ⟨k1, k2⟩ := k
  refine ⟨⟨k1.os.trans h1.os, k1.tape.trans h1.tape, k1.output.trans h1.output, Nat.le_trans h1.size k1.size, fun q hq hn => ?_⟩, ?_⟩
  · rw [k1.block q (Nat.lt_of_lt_of_le hq h1.size) (by
      rcases h2 with h2 | h2
      · rw [h2]; exact hn
      · intro e; have := h2 q e.symm; omega)]
    exact h1.block q hq hn
  · rcases k2 with k2 | k2
    · rw [k2]; exact h2
    · exact .inr fun g hg => Nat.le_trans h1.size (k2 g hg)

/-- Blocks below B are as they were, and so is all but a row; the row is the same or new. -/
structure Bl (B : Nat) (w : World) (d : Value) (w' : World) (d' : Value) : Prop extends RowKit.Below B w w' where
  gr : Gr w d w' d'

theorem Bl.trans {B : Nat} {a b c : World} {d d' d'' : Value} (h : Bl B a d b d') (k : Bl B b d' c d'') : Bl B a d c d'' := ⟨h.toBelow.trans k.toBelow, Gr.trans h.gr k.gr⟩

theorem Gr.of_keep {w w' : World} {d : Value} (k : Keep [] w w') : Gr w d w' d := ⟨⟨k.os, k.tape, k.output, k.size, fun q hq _ => k.block q hq (by simp)⟩, .inl rfl⟩

theorem Bl.of_keep {B : Nat} {w w' : World} {d : Value} (k : Keep [] w w') (hB : B ≤ w.heap.size) : Bl B w d w' d := ⟨k.below (fun x hx => by cases hx) hB, Gr.of_keep k⟩

theorem Bl.refl (B : Nat) (w : World) (d : Value) : Bl B w d w d := ⟨RowKit.Below.refl B w, Gr.of_keep (Keep.refl _ _)⟩

/-- A block that is not the row's stays as it is, and is not the new row's. -/
theorem Bl.other {B : Nat} {w w' : World} {d d' : Value} (h : Bl B w d w' d') {x : Nat} (hx : x < w.heap.size) (hn : d.ownBlock ≠ some x) : w'.heap[x]? = w.heap[x]? ∧ d'.ownBlock ≠ some x := by
  refine ⟨h.gr.1.block x hx (fun e => hn e.symm), ?_⟩
  rcases h.gr.2 with e | e
  · rw [e]; exact hn
  · intro e'; have := e x e'; omega

/-- A function appends what 'enc' says of a value told by 'rep'. -/
def Appends (P : Program) (e : TypeId) (f : FuncId) {α : Type} (enc : α → Bs) (rep : (Nat → Prop) → World → α → Value → Prop) : Prop :=
  ∀ (w : World) (B : Nat) (d : Value) (out : Bs) (x : α) (v : Value) (K : Value → World → Prop), Own w B e d out → rep (· < B) w x v → out.length + (enc x).length ≤ lim →
    (∀ d' w', Own w' B e d' (out ++ enc x) → Bl B w d w' d' → K d' w') → In.wp P (.call f) [d, v] w K

theorem wp_appG {w : World} {B : Nat} {e : TypeId} {d u : Value} {out bs : Bs} {K : Value → World → Prop} (h : Own w B e d out) (hu : Sl0 w u bs) (hl : out.length + bs.length ≤ lim)
    (hk : ∀ d' w', Own w' B e d' (out ++ bs) → RowKit.Below B w w' → Gr w d w' d' → K d' w') : In.wp P (.app e) [d, u] w K := by
  refine .inl ⟨B, d, out.length, out.map u8, u, bs, rfl, h.1, h.2, hu, hl, fun v' w' h1 h2 _ h4 => hk v' w' ⟨?_, Nat.le_trans h.2 h2.size⟩ h2 h4⟩
  simpa using h1

theorem wp_app {w : World} {B : Nat} {e : TypeId} {d u : Value} {out bs : Bs} {K : Value → World → Prop} (h : Own w B e d out) (hu : Sl0 w u bs) (hl : out.length + bs.length ≤ lim)
    (hk : ∀ d' w', Own w' B e d' (out ++ bs) → RowKit.Below B w w' → K d' w') : In.wp P (.app e) [d, u] w K := wp_appG h hu hl fun d' w' a b _ => hk d' w' a b

theorem wp_appB {w : World} {B : Nat} {e : TypeId} {d u : Value} {out bs : Bs} {K : Value → World → Prop} (h : Own w B e d out) (hu : Sl0 w u bs) (hl : out.length + bs.length ≤ lim)
    (hk : ∀ d' w', Own w' B e d' (out ++ bs) → Bl B w d w' d' → K d' w') : In.wp P (.app e) [d, u] w K := wp_appG h hu hl fun d' w' a b c => hk d' w' a ⟨b, c⟩

theorem wp_appSB {w : World} {B : Nat} {e : TypeId} {d : Value} {out bs : Bs} {K : Value → World → Prop} (h : Own w B e d out) (hl : out.length + bs.length ≤ lim)
    (hk : ∀ d' w', Own w' B e d' (out ++ bs) → Bl B w d w' d' → K d' w') : In.wp P (.appS e) [d, .string ⟨bs.toArray⟩] w K := by
  refine ⟨B, d, out.length, out.map u8, ⟨bs.toArray⟩, rfl, h.1, h.2, by simpa [ByteArray.size] using hl, fun v' w' h1 h2 _ h4 => hk v' w' ⟨?_, Nat.le_trans h.2 h2.size⟩ ⟨h2, h4⟩⟩
  simpa [ByteArray.size] using h1

theorem wp_appS {w : World} {B : Nat} {e : TypeId} {d : Value} {out bs : Bs} {K : Value → World → Prop} (h : Own w B e d out) (hl : out.length + bs.length ≤ lim)
    (hk : ∀ d' w', Own w' B e d' (out ++ bs) → RowKit.Below B w w' → K d' w') : In.wp P (.appS e) [d, .string ⟨bs.toArray⟩] w K := by
  refine ⟨B, d, out.length, out.map u8, ⟨bs.toArray⟩, rfl, h.1, h.2, by simpa [ByteArray.size] using hl, fun v' w' h1 h2 _ _ => hk v' w' ⟨?_, Nat.le_trans h.2 h2.size⟩ h2⟩
  simpa [ByteArray.size] using h1

/-- As 'Appends', and all but the row is as it was. -/
def AppendsG (P : Program) (e : TypeId) (f : FuncId) {α : Type} (enc : α → Bs) (rep : (Nat → Prop) → World → α → Value → Prop) : Prop :=
  ∀ (w : World) (B : Nat) (d : Value) (out : Bs) (x : α) (v : Value) (K : Value → World → Prop), Own w B e d out → rep (· < B) w x v → out.length + (enc x).length ≤ lim →
    (∀ d' w', Own w' B e d' (out ++ enc x) → RowKit.Below B w w' → Gr w d w' d' → K d' w') → In.wp P (.call f) [d, v] w K

theorem AppendsG.app {e : TypeId} {f : FuncId} {α : Type} {enc : α → Bs} {rep : (Nat → Prop) → World → α → Value → Prop} (h : AppendsG P e f enc rep) : Appends P e f enc rep :=
  fun w B d out x v K ho hv hl hk => h w B d out x v K ho hv hl fun d' w' a b c => hk d' w' a ⟨b, c⟩

theorem gr_new {w w1 w2 : World} {d d' : Value} (k : Keep [] w w1) (h : Gr w1 d w2 d') : Gr w d w2 d' := by
  obtain ⟨h1, h2⟩ := h
  refine ⟨⟨h1.os.trans k.os, h1.tape.trans k.tape, h1.output.trans k.output, Nat.le_trans k.size h1.size, fun q hq hn => ?_⟩, h2.imp id fun h g hg => Nat.le_trans k.size (h g hg)⟩
  rw [h1.block q (Nat.lt_of_lt_of_le hq k.size) hn]
  exact k.block q hq (by simp)

/-- Octets laid anew and appended. -/
theorem wp_layG {w : World} {B : Nat} {e : TypeId} {d : Value} {out bs : Bs} {η : Nat → Value} {args : List SV} {n m j : Nat} {K : Value → World → Prop} (h : Own w B e d out) (ha : args.map (SV.val η) = bs.map u8) (hd : η j = d) (hj : j ≠ n) (hl : out.length + bs.length ≤ lim)
    (hk : ∀ d' w', Own w' B e d' (out ++ bs) → RowKit.Below B w w' → Gr w d w' d' → K d' w') :
    (NP.op (.bsl e) args n <| .op (.app e) [.s j, .s n] m <| .ret [.s m]).wp P (postP [.direct] K) η w := by
  refine np_op ha (wp_bsl fun b w1 hb k1 r1 => ?_)
  have hB : RowKit.Below B w w1 := k1.below (by simp) h.2
  have h1 : Own w1 B e d out := by
    refine ⟨⟨h.1.1, ?_⟩, Nat.le_trans h.2 k1.size⟩
    rcases h.1.2 with h0 | ⟨g, cap, cur, h2, h3, h4, h5⟩
    · exact .inl h0
    · exact .inr ⟨g, cap, cur, h2, h3, by rw [k1.block g (Array.getElem?_eq_some_iff.1 h4).1 (by simp)]; exact h4, h5⟩
  refine np_op (vs := [d, .slice (some ⟨b, 0, none⟩) bs.length bs.length]) (by simp [SV.val, upd, hd, hj]) (wp_appG h1 (.inr ⟨_, _, rfl, (row_bytes (ok := fun _ => True) r1 trivial).2.2⟩) hl fun d' w2 o2 k2 g2 => ?_)
  show K (pack _) w2
  simpa [SV.val, upd, pack] using hk d' w2 o2 (hB.trans k2) (gr_new k1 g2)

theorem wp_lay {w : World} {B : Nat} {e : TypeId} {d : Value} {out bs : Bs} {η : Nat → Value} {args : List SV} {n m j : Nat} {K : Value → World → Prop} (h : Own w B e d out) (ha : args.map (SV.val η) = bs.map u8) (hd : η j = d) (hj : j ≠ n) (hl : out.length + bs.length ≤ lim)
    (hk : ∀ d' w', Own w' B e d' (out ++ bs) → RowKit.Below B w w' → K d' w') :
    (NP.op (.bsl e) args n <| .op (.app e) [.s j, .s n] m <| .ret [.s m]).wp P (postP [.direct] K) η w := wp_layG h ha hd hj hl fun d' w' a b _ => hk d' w' a b

theorem wp_layB {w : World} {B : Nat} {e : TypeId} {d : Value} {out bs : Bs} {η : Nat → Value} {args : List SV} {n m j : Nat} {K : Value → World → Prop} (h : Own w B e d out) (ha : args.map (SV.val η) = bs.map u8) (hd : η j = d) (hj : j ≠ n) (hl : out.length + bs.length ≤ lim)
    (hk : ∀ d' w', Own w' B e d' (out ++ bs) → Bl B w d w' d' → K d' w') :
    (NP.op (.bsl e) args n <| .op (.app e) [.s j, .s n] m <| .ret [.s m]).wp P (postP [.direct] K) η w := wp_layG h ha hd hj hl fun d' w' a b c => hk d' w' a ⟨b, c⟩

theorem wrap_u8 (m : Nat) : Value.int .u8 (IntKind.u8.wrap (m : Int)) = u8 (UInt8.ofNat (m % 256)) := by
  have : IntKind.u8.wrap (m : Int) = ((m % 256 : Nat) : Int) := by simp [IntKind.wrap, IntKind.bits, IntKind.signed]
  rw [this]
  simp [u8]

theorem shr_nat (k : IntKind) (n s : Nat) (hs : s ≤ k.bits) : shV .shr k (n : Int) s = some (.int k ((n / 2 ^ s : Nat) : Int)) := by
  simp only [shV, Nat.min_eq_left hs]
  congr 2
  rw [show ((2 : Int) ^ s) = ((2 ^ s : Nat) : Int) by simp]
  rw [Int.fdiv_eq_ediv_of_nonneg _ (Int.natCast_nonneg _)]
  exact (Int.natCast_ediv _ _).symm

theorem appendUint16_ok (hn : Named P) {I : Ids} {f : FuncId} (hf : fnP P f 2 = some (p_appendUint16 I)) : Appends P I.e8 f (be 2) (natRep .u16) := by
  intro w B d out n v K ho hv hl hk
  have hv : v = .int .u16 (n : Int) := hv
  subst hv
  refine calls_of_np hn (vs := [d, .int .u16 (n : Int)]) hf fun η hη => ?_
  have h0 : η 0 = d := hη 0 (by simp)
  have h1 : η 1 = .int .u16 (n : Int) := hη 1 (by simp)
  refine np_op (vs := [.int .u16 (n : Int), .int .u64 8]) (by simp [SV.val, h1]) ⟨.u16, _, .u64, 8, _, rfl, shr_nat .u16 n 8 (by decide), ?_⟩
  refine np_op (vs := [.int .u16 ((n / 2 ^ 8 : Nat) : Int)]) (by simp [SV.val, upd]) ⟨.u16, _, rfl, ?_⟩
  refine np_op (vs := [.int .u16 (n : Int)]) (by simp [SV.val, upd, h1]) ⟨.u16, _, rfl, ?_⟩
  refine wp_layB ho (bs := be 2 n) ?_ (by simp [upd, h0]) (by simp) hl hk
  simp only [List.map, SV.val, upd, wrap_u8]
  simp [be]

theorem appendUint32_ok (hn : Named P) {I : Ids} {f : FuncId} (hf : fnP P f 2 = some (p_appendUint32 I)) : Appends P I.e8 f (be 4) (natRep .u32) := by
  intro w B d out n v K ho hv hl hk
  have hv : v = .int .u32 (n : Int) := hv
  subst hv
  refine calls_of_np hn (vs := [d, .int .u32 (n : Int)]) hf fun η hη => ?_
  have h0 : η 0 = d := hη 0 (by simp)
  have h1 : η 1 = .int .u32 (n : Int) := hη 1 (by simp)
  refine np_op (vs := [.int .u32 (n : Int), .int .u64 24]) (by simp [SV.val, upd, h1]) ⟨.u32, _, .u64, 24, _, rfl, shr_nat .u32 n 24 (by decide), ?_⟩
  refine np_op (vs := [.int .u32 ((n / 2 ^ 24 : Nat) : Int)]) (by simp [SV.val, upd]) ⟨.u32, _, rfl, ?_⟩
  refine np_op (vs := [.int .u32 (n : Int), .int .u64 16]) (by simp [SV.val, upd, h1]) ⟨.u32, _, .u64, 16, _, rfl, shr_nat .u32 n 16 (by decide), ?_⟩
  refine np_op (vs := [.int .u32 ((n / 2 ^ 16 : Nat) : Int)]) (by simp [SV.val, upd]) ⟨.u32, _, rfl, ?_⟩
  refine np_op (vs := [.int .u32 (n : Int), .int .u64 8]) (by simp [SV.val, upd, h1]) ⟨.u32, _, .u64, 8, _, rfl, shr_nat .u32 n 8 (by decide), ?_⟩
  refine np_op (vs := [.int .u32 ((n / 2 ^ 8 : Nat) : Int)]) (by simp [SV.val, upd]) ⟨.u32, _, rfl, ?_⟩
  refine np_op (vs := [.int .u32 (n : Int)]) (by simp [SV.val, upd, h1]) ⟨.u32, _, rfl, ?_⟩
  refine wp_layB ho (bs := be 4 n) ?_ (by simp [upd, h0]) (by simp) hl hk
  simp only [List.map, SV.val, upd, wrap_u8]
  simp [be]

theorem appendUint64_ok (hn : Named P) {I : Ids} {f : FuncId} (hf : fnP P f 2 = some (p_appendUint64 I)) : Appends P I.e8 f (be 8) (natRep .u64) := by
  intro w B d out n v K ho hv hl hk
  have hv : v = .int .u64 (n : Int) := hv
  subst hv
  refine calls_of_np hn (vs := [d, .int .u64 (n : Int)]) hf fun η hη => ?_
  have h0 : η 0 = d := hη 0 (by simp)
  have h1 : η 1 = .int .u64 (n : Int) := hη 1 (by simp)
  refine np_op (vs := [.int .u64 (n : Int), .int .u64 56]) (by simp [SV.val, upd, h1]) ⟨.u64, _, .u64, 56, _, rfl, shr_nat .u64 n 56 (by decide), ?_⟩
  refine np_op (vs := [.int .u64 ((n / 2 ^ 56 : Nat) : Int)]) (by simp [SV.val, upd]) ⟨.u64, _, rfl, ?_⟩
  refine np_op (vs := [.int .u64 (n : Int), .int .u64 48]) (by simp [SV.val, upd, h1]) ⟨.u64, _, .u64, 48, _, rfl, shr_nat .u64 n 48 (by decide), ?_⟩
  refine np_op (vs := [.int .u64 ((n / 2 ^ 48 : Nat) : Int)]) (by simp [SV.val, upd]) ⟨.u64, _, rfl, ?_⟩
  refine np_op (vs := [.int .u64 (n : Int), .int .u64 40]) (by simp [SV.val, upd, h1]) ⟨.u64, _, .u64, 40, _, rfl, shr_nat .u64 n 40 (by decide), ?_⟩
  refine np_op (vs := [.int .u64 ((n / 2 ^ 40 : Nat) : Int)]) (by simp [SV.val, upd]) ⟨.u64, _, rfl, ?_⟩
  refine np_op (vs := [.int .u64 (n : Int), .int .u64 32]) (by simp [SV.val, upd, h1]) ⟨.u64, _, .u64, 32, _, rfl, shr_nat .u64 n 32 (by decide), ?_⟩
  refine np_op (vs := [.int .u64 ((n / 2 ^ 32 : Nat) : Int)]) (by simp [SV.val, upd]) ⟨.u64, _, rfl, ?_⟩
  refine np_op (vs := [.int .u64 (n : Int), .int .u64 24]) (by simp [SV.val, upd, h1]) ⟨.u64, _, .u64, 24, _, rfl, shr_nat .u64 n 24 (by decide), ?_⟩
  refine np_op (vs := [.int .u64 ((n / 2 ^ 24 : Nat) : Int)]) (by simp [SV.val, upd]) ⟨.u64, _, rfl, ?_⟩
  refine np_op (vs := [.int .u64 (n : Int), .int .u64 16]) (by simp [SV.val, upd, h1]) ⟨.u64, _, .u64, 16, _, rfl, shr_nat .u64 n 16 (by decide), ?_⟩
  refine np_op (vs := [.int .u64 ((n / 2 ^ 16 : Nat) : Int)]) (by simp [SV.val, upd]) ⟨.u64, _, rfl, ?_⟩
  refine np_op (vs := [.int .u64 (n : Int), .int .u64 8]) (by simp [SV.val, upd, h1]) ⟨.u64, _, .u64, 8, _, rfl, shr_nat .u64 n 8 (by decide), ?_⟩
  refine np_op (vs := [.int .u64 ((n / 2 ^ 8 : Nat) : Int)]) (by simp [SV.val, upd]) ⟨.u64, _, rfl, ?_⟩
  refine np_op (vs := [.int .u64 (n : Int)]) (by simp [SV.val, upd, h1]) ⟨.u64, _, rfl, ?_⟩
  refine wp_layB ho (bs := be 8 n) ?_ (by simp [upd, h0]) (by simp) hl hk
  simp only [List.map, SV.val, upd, wrap_u8]
  simp [be]

/-- An integer's octets, as a number without a sign. -/
theorem wrap_usn (k : IntKind) (hk : k.signed = false) (i : Int) : k.wrap i = (usn k.bits i : Int) := by
  have hp : (0 : Int) < 2 ^ k.bits := by
    have : 0 < (2 : Nat) ^ k.bits := Nat.pow_pos (by omega)
    have := Int.ofNat_lt.2 this
    simpa using this
  simp only [IntKind.wrap, hk, Bool.false_and, Bool.false_eq_true, if_false, usn]
  rw [Int.toNat_of_nonneg (Int.emod_nonneg _ (by omega))]

theorem appendInt16_ok (hn : Named P) {I : Ids} {f : FuncId} (hf : fnP P f 2 = some (p_appendInt16 I)) (hu : Appends P I.e8 I.appendUint16 (be 2) (natRep .u16)) : Appends P I.e8 f (wrI 2) (intRep .i16) := by
  intro w B d out n v K ho hv hl hk
  have hv : v = .int .i16 n := hv
  subst hv
  refine calls_of_np hn (vs := [d, .int .i16 n]) hf fun η hη => ?_
  have h0 : η 0 = d := hη 0 (by simp)
  have h1 : η 1 = .int .i16 n := hη 1 (by simp)
  refine np_op (vs := [.int .i16 n]) (by simp [SV.val, h1]) ⟨.i16, _, rfl, ?_⟩
  rw [wrap_usn .u16 rfl]
  refine np_op (vs := [d, .int .u16 (usn 16 n : Int)]) (by simp [SV.val, upd, h0]; rfl) (hu w B d out (usn 16 n) _ _ ho rfl hl fun d' w' o' k' => ?_)
  show K (pack _) w'
  simpa [SV.val, upd, pack] using hk d' w' o' k'

theorem appendInt32_ok (hn : Named P) {I : Ids} {f : FuncId} (hf : fnP P f 2 = some (p_appendInt32 I)) (hu : Appends P I.e8 I.appendUint32 (be 4) (natRep .u32)) : Appends P I.e8 f (wrI 4) (intRep .i32) := by
  intro w B d out n v K ho hv hl hk
  have hv : v = .int .i32 n := hv
  subst hv
  refine calls_of_np hn (vs := [d, .int .i32 n]) hf fun η hη => ?_
  have h0 : η 0 = d := hη 0 (by simp)
  have h1 : η 1 = .int .i32 n := hη 1 (by simp)
  refine np_op (vs := [.int .i32 n]) (by simp [SV.val, h1]) ⟨.i32, _, rfl, ?_⟩
  rw [wrap_usn .u32 rfl]
  refine np_op (vs := [d, .int .u32 (usn 32 n : Int)]) (by simp [SV.val, upd, h0]; rfl) (hu w B d out (usn 32 n) _ _ ho rfl hl fun d' w' o' k' => ?_)
  show K (pack _) w'
  simpa [SV.val, upd, pack] using hk d' w' o' k'

theorem appendInt64_ok (hn : Named P) {I : Ids} {f : FuncId} (hf : fnP P f 2 = some (p_appendInt64 I)) (hu : Appends P I.e8 I.appendUint64 (be 8) (natRep .u64)) : Appends P I.e8 f (wrI 8) (intRep .i64) := by
  intro w B d out n v K ho hv hl hk
  have hv : v = .int .i64 n := hv
  subst hv
  refine calls_of_np hn (vs := [d, .int .i64 n]) hf fun η hη => ?_
  have h0 : η 0 = d := hη 0 (by simp)
  have h1 : η 1 = .int .i64 n := hη 1 (by simp)
  refine np_op (vs := [.int .i64 n]) (by simp [SV.val, h1]) ⟨.i64, _, rfl, ?_⟩
  rw [wrap_usn .u64 rfl]
  refine np_op (vs := [d, .int .u64 (usn 64 n : Int)]) (by simp [SV.val, upd, h0]; rfl) (hu w B d out (usn 64 n) _ _ ho rfl hl fun d' w' o' k' => ?_)
  show K (pack _) w'
  simpa [SV.val, upd, pack] using hk d' w' o' k'

theorem appendInt8_ok (hn : Named P) {I : Ids} {f : FuncId} (hf : fnP P f 2 = some (p_appendInt8 I)) : Appends P I.e8 f (wrI 1) (intRep .i8) := by
  intro w B d out n v K ho hv hl hk
  have hv : v = .int .i8 n := hv
  subst hv
  refine calls_of_np hn (vs := [d, .int .i8 n]) hf fun η hη => ?_
  have h0 : η 0 = d := hη 0 (by simp)
  have h1 : η 1 = .int .i8 n := hη 1 (by simp)
  refine np_op (vs := [.int .i8 n]) (by simp [SV.val, h1]) ⟨.i8, _, rfl, ?_⟩
  refine wp_layB ho (bs := wrI 1 n) ?_ (by simp [upd, h0]) (by simp) hl hk
  have hlt : usn 8 n < 256 := by unfold usn; omega
  have e : wrI 1 n = [UInt8.ofNat (usn 8 n % 256)] := by simp [wrI, be]
  rw [e, wrap_usn .u8 rfl]
  simp [SV.val, upd, u8, IntKind.bits]
  omega

theorem appendBool_ok (hn : Named P) {I : Ids} {f : FuncId} (hf : fnP P f 2 = some (p_appendBool I)) : Appends P I.e8 f (fun b : Bool => [if b then 1 else 0]) boolRep := by
  intro w B d out b v K ho hv hl hk
  have hv : v = .bool b := hv
  subst hv
  refine calls_of_np hn (vs := [d, .bool b]) hf fun η hη => ?_
  have h0 : η 0 = d := hη 0 (by simp)
  have h1 : η 1 = .bool b := hη 1 (by simp)
  refine np_ite b (by simp [SV.val, h1]) ?_
  cases b with
  | true =>
    simp only [if_true]
    refine NP.wp_mono _ _ _ _ _ ?_ (wp_layB ho (bs := [1]) (by simp [SV.val, u8]) h0 (by simp) hl hk)
    intro o η w ho
    cases o with
    | nrm => exact absurd ho.1 (by simp)
    | ext => exact ho
    | ret vs => exact ho
  | false =>
    simp only [Bool.false_eq_true, if_false]
    exact wp_layB ho (bs := [0]) (by simp [SV.val, u8]) h0 (by simp) hl hk

end
end Go.Kb

/- What kbin's writers do: numbers in groups of seven bits. -/
namespace Go.Kb
open Go.Lx Go.Nx Go.Km Go.Mx

set_option linter.unusedSimpArgs false
set_option linter.unusedVariables false

section
variable {P : Program}

/-- How many bits a number has. -/
def bitlen (n : Nat) : Nat := if n = 0 then 0 else n.log2 + 1

theorem bitlen_le (n k : Nat) : bitlen n ≤ k ↔ n < 2 ^ k := by
  unfold bitlen
  split
  · rename_i h; subst h; simp [Nat.pow_pos]
  · rename_i h
    rw [Nat.succ_le_iff]
    exact Nat.log2_lt h

theorem bitlen_div (n k : Nat) (h : 2 ^ k ≤ n) : bitlen n = bitlen (n / 2 ^ k) + k := by
  have hp : 0 < 2 ^ k := Nat.pow_pos (by omega)
  apply Nat.le_antisymm
  · rw [bitlen_le, Nat.pow_add]
    have := (bitlen_le (n / 2 ^ k) _).1 (Nat.le_refl _)
    exact (Nat.div_lt_iff_lt_mul hp).1 this
  · have h1 : k < bitlen n := by
      rcases Nat.lt_or_ge k (bitlen n) with h' | h'
      · exact h'
      · have := (bitlen_le n k).1 h'; omega
    have h2 : bitlen (n / 2 ^ k) ≤ bitlen n - k := by
      rw [bitlen_le, Nat.div_lt_iff_lt_mul hp, ← Nat.pow_add]
      have : bitlen n - k + k = bitlen n := by omega
      rw [this]
      exact (bitlen_le n _).1 (Nat.le_refl _)
    omega

def Tab8 (t : ByteArray) : Prop := ∀ n, n < 256 → t[n]? = some (UInt8.ofNat (bitlen n))

def Len32Ok (P : Program) (f : FuncId) : Prop := ∀ (w : World) (n : Nat) (K : Value → World → Prop), n < 2 ^ 32 → K (.int .i64 (bitlen n : Int)) w → In.wp P (.call f) [.int .u32 (n : Int)] w K

theorem len32_ok (hn : Named P) {I : Ids} {f : FuncId} (hf : fnP P f 1 = some (p_len32 I)) (ht : Tab8 I.tab8) : Len32Ok P f := by
  intro w n K hlt hk
  refine calls_of_np hn (vs := [.int .u32 (n : Int)]) hf fun η hη => ?_
  have h0 : η 0 = .int .u32 (n : Int) := hη 0 (by simp)
  -- the last steps
  have fin : ∀ (η' : Nat → Value) (m a : Nat), η' 8 = .int .u32 (m : Int) → η' 9 = .int .i64 (a : Int) → m < 256 → a ≤ 24 → bitlen n = bitlen m + a →
      (NP.op (.cv .u8) [.s 8] 10 <| NP.op .idxS [.k (.string I.tab8), .s 10] 11 <| NP.op (.cv .i64) [.s 11] 12 <| NP.op (.bin .add) [.s 9, .s 12] 13 <| NP.ret [.s 13]).wp P (postP [.direct] K) η' w := by
    intro η' m a h8 h9 hm ha hb
    have hbm : bitlen m ≤ 8 := (bitlen_le m 8).2 (by simpa using hm)
    refine np_op (vs := [.int .u32 (m : Int)]) (by simp [SV.val, h8]) ⟨.u32, _, rfl, ?_⟩
    have hw : IntKind.u8.wrap (m : Int) = (m : Int) := by simp [IntKind.wrap, IntKind.bits, IntKind.signed]; omega
    rw [hw]
    refine np_op (vs := [.string I.tab8, .int .u8 (m : Int)]) (by simp [SV.val, upd]) ⟨_, .u8, m, _, rfl, ht m hm, ?_⟩
    refine np_op (vs := [u8 (UInt8.ofNat (bitlen m))]) (by simp [SV.val, upd]) ⟨.u8, _, rfl, ?_⟩
    have hb8 : ((UInt8.ofNat (bitlen m)).toNat : Int) = (bitlen m : Int) := by simp; omega
    rw [hb8, wrap64 _ (by omega) (by omega)]
    refine np_op (vs := [.int .i64 (a : Int), .int .i64 (bitlen m : Int)]) (by simp [SV.val, upd, h9]) ⟨.i64, _, _, _, rfl, rfl, ?_⟩
    rw [wrap64 _ (by omega) (by omega)]
    show K (pack _) w
    have : (a : Int) + (bitlen m : Int) = (bitlen n : Int) := by omega
    simpa [SV.val, upd, pack, this] using hk
  have mid : ∀ (η' : Nat → Value) (m a : Nat), η' 3 = .int .u32 (m : Int) → η' 4 = .int .i64 (a : Int) → m < 65536 → a ≤ 16 → bitlen n = bitlen m + a →
      (NP.op (.bin .geq) [.s 3, .k (.int .u32 256)] 5 <|
        NP.ite (.s 5) (.op (.sh .shr) [.s 3, .k (.int .u64 8)] 6 <| .op (.bin .add) [.s 4, .k (.int .i64 8)] 7 <| .set 8 (.s 6) <| .set 9 (.s 7) <| .nil) (.set 8 (.s 3) <| .set 9 (.s 4) <| .nil) <|
        NP.op (.cv .u8) [.s 8] 10 <| NP.op .idxS [.k (.string I.tab8), .s 10] 11 <| NP.op (.cv .i64) [.s 11] 12 <| NP.op (.bin .add) [.s 9, .s 12] 13 <| NP.ret [.s 13]).wp P (postP [.direct] K) η' w := by
    intro η' m a h3 h4 hm ha hb
    refine np_op (vs := [.int .u32 (m : Int), .int .u32 256]) (by simp [SV.val, h3]) ⟨.u32, _, _, _, rfl, rfl, ?_⟩
    refine np_ite (decide ((m : Int) ≥ 256)) (by simp [SV.val, upd]) ?_
    by_cases hge : (m : Int) ≥ 256
    · simp only [hge, decide_true, if_true]
      refine np_op (vs := [.int .u32 (m : Int), .int .u64 8]) (by simp [SV.val, upd, h3]) ⟨.u32, _, .u64, 8, _, rfl, shr_nat .u32 m 8 (by decide), ?_⟩
      refine np_op (vs := [.int .i64 (a : Int), .int .i64 8]) (by simp [SV.val, upd, h4]) ⟨.i64, _, _, _, rfl, rfl, ?_⟩
      rw [wrap64 _ (by omega) (by omega)]
      refine fin _ (m / 2 ^ 8) (a + 8) (by simp [SV.val, upd]) (by simp [SV.val, upd]) (by omega) (by omega) ?_
      rw [hb, bitlen_div m 8 (by simp; omega)]; omega
    · simp only [hge, decide_false, Bool.false_eq_true, if_false]
      exact fin _ m a (by simp [SV.val, upd, h3]) (by simp [SV.val, upd, h4]) (by omega) (by omega) hb
  refine np_op (vs := [.int .u32 (n : Int), .int .u32 65536]) (by simp [SV.val, h0]) ⟨.u32, _, _, _, rfl, rfl, ?_⟩
  refine np_ite (decide ((n : Int) ≥ 65536)) (by simp [SV.val, upd]) ?_
  by_cases hge : (n : Int) ≥ 65536
  · simp only [hge, decide_true, if_true]
    refine np_op (vs := [.int .u32 (n : Int), .int .u64 16]) (by simp [SV.val, upd, h0]) ⟨.u32, _, .u64, 16, _, rfl, shr_nat .u32 n 16 (by decide), ?_⟩
    refine mid _ (n / 2 ^ 16) 16 (by simp [SV.val, upd]) (by simp [SV.val, upd]) (by omega) (by omega) ?_
    exact bitlen_div n 16 (by simp; omega)
  · simp only [hge, decide_false, Bool.false_eq_true, if_false]
    exact mid _ n 0 (by simp [SV.val, upd, h0]) (by simp [SV.val, upd]) (by omega) (by omega) rfl

/-- How many groups a number takes, by its bits. -/
def groups (b : Nat) : Nat := if b ≤ 7 then 1 else if b ≤ 14 then 2 else if b ≤ 21 then 3 else if b ≤ 28 then 4 else 5

def LensTab (t : ByteArray) : Prop := ∀ b, b ≤ 32 → t[b]? = some (UInt8.ofNat (groups b))

theorem wrUv_groups (n : Nat) : (wrUv n).length = groups (bitlen n) := by
  have h7 := bitlen_le n 7
  have h14 := bitlen_le n 14
  have h21 := bitlen_le n 21
  have h28 := bitlen_le n 28
  simp only [Nat.reducePow] at h7 h14 h21 h28
  unfold groups
  simp only [h7, h14, h21, h28]
  unfold wrUv
  simp only [wrV]
  by_cases a1 : n < 128
  · simp [a1]
  by_cases a2 : n < 16384
  · have b2 : n / 128 < 128 := by omega
    simp [a1, a2, b2]
  have b2 : ¬ n / 128 < 128 := by omega
  by_cases a3 : n < 2097152
  · have b3 : n / 128 / 128 < 128 := by omega
    simp [a1, a2, a3, b2, b3]
  have b3 : ¬ n / 128 / 128 < 128 := by omega
  by_cases a4 : n < 268435456
  · have b4 : n / 128 / 128 / 128 < 128 := by omega
    simp [a1, a2, a3, a4, b2, b3, b4]
  have b4 : ¬ n / 128 / 128 / 128 < 128 := by omega
  simp [a1, a2, a3, a4, b2, b3, b4]

def UvLenOk (P : Program) (f : FuncId) : Prop := ∀ (w : World) (n : Nat) (K : Value → World → Prop), n < 2 ^ 32 → K (.int .i64 ((wrUv n).length : Int)) w → In.wp P (.call f) [.int .u32 (n : Int)] w K

theorem uvarintLen_ok (hn : Named P) {I : Ids} {f : FuncId} (hf : fnP P f 1 = some (p_uvarintLen I)) (hl : Len32Ok P I.len32) (ht : LensTab I.lens) : UvLenOk P f := by
  intro w n K hlt hk
  refine calls_of_np hn (vs := [.int .u32 (n : Int)]) hf fun η hη => ?_
  have h0 : η 0 = .int .u32 (n : Int) := hη 0 (by simp)
  have hb : bitlen n ≤ 32 := (bitlen_le n 32).2 hlt
  refine np_op (vs := [.int .u32 (n : Int)]) (by simp [SV.val, h0]) (hl w n _ hlt ?_)
  refine np_op (vs := [.int .i64 (bitlen n : Int)]) (by simp [SV.val, upd]) ⟨.i64, _, rfl, ?_⟩
  have hw : IntKind.u8.wrap (bitlen n : Int) = (bitlen n : Int) := by simp [IntKind.wrap, IntKind.bits, IntKind.signed]; omega
  rw [hw]
  refine np_op (vs := [.string I.lens, .int .u8 (bitlen n : Int)]) (by simp [SV.val, upd]) ⟨_, .u8, bitlen n, _, rfl, ht _ hb, ?_⟩
  refine np_op (vs := [u8 (UInt8.ofNat (groups (bitlen n)))]) (by simp [SV.val, upd]) ⟨.u8, _, rfl, ?_⟩
  have hg : groups (bitlen n) ≤ 5 := by unfold groups; repeat (first | split | omega)
  have hb8 : ((UInt8.ofNat (groups (bitlen n))).toNat : Int) = (groups (bitlen n) : Int) := by simp; omega
  rw [hb8, wrap64 _ (by omega) (by omega)]
  show K (pack _) w
  simpa [SV.val, upd, pack, wrUv_groups] using hk

theorem wp_lay' {w : World} {B : Nat} {e : TypeId} {d : Value} {out bs : Bs} {η : Nat → Value} {args : List SV} {n m j : Nat} {K : Value → World → Prop} {Q : Out → (Nat → Value) → World → Prop} (hQ : ∀ d' w', K d' w' → ∀ η, Q (.ret [d']) η w')
    (h : Own w B e d out) (ha : args.map (SV.val η) = bs.map u8) (hd : η j = d) (hj : j ≠ n) (hl : out.length + bs.length ≤ lim)
    (hk : ∀ d' w', Own w' B e d' (out ++ bs) → RowKit.Below B w w' → Gr w d w' d' → K d' w') :
    (NP.op (.bsl e) args n <| .op (.app e) [.s j, .s n] m <| .ret [.s m]).wp P Q η w := by
  refine NP.wp_mono _ _ _ _ _ ?_ (wp_layG h ha hd hj hl hk)
  intro o η w ho
  cases o with
  | nrm => exact absurd ho.1 (by simp)
  | ext => exact ho.elim
  | ret vs =>
    match vs, ho with
    | [v], ho => exact hQ v w ho _

theorem wrap_u32 (m : Nat) (h : m < 4294967296) : IntKind.u32.wrap (m : Int) = (m : Int) := by
  simp only [IntKind.wrap, IntKind.bits, IntKind.signed]
  simp
  omega

theorem or128 : ∀ m, m < 128 → m ||| 128 = m + 128 := by decide

theorem and127 (m : Nat) (hm : m < 2 ^ 32) : binV .and .u32 (m : Int) 127 = some (.int .u32 ((m % 128 : Nat) : Int)) := by
  have e1 : BitVec.ofInt 32 (m : Int) = BitVec.ofNat 32 m := by simp
  have e2 : (BitVec.ofNat 32 m &&& BitVec.ofNat 32 127).toNat = m % 128 := by
    rw [BitVec.toNat_and, BitVec.toNat_ofNat, BitVec.toNat_ofNat, Nat.mod_eq_of_lt hm]
    exact Nat.and_two_pow_sub_one_eq_mod m 7
  have e3 : BitVec.ofInt 32 127 = BitVec.ofNat 32 127 := rfl
  have key : (BitVec.ofInt 32 (m : Int) &&& BitVec.ofInt 32 127).toNat = m % 128 := by rw [e1, e3]; exact e2
  show some (Value.int .u32 (IntKind.u32.wrap (((BitVec.ofInt 32 (m : Int) &&& BitVec.ofInt 32 127).toNat : Nat) : Int))) = _
  rw [key, wrap_u32 _ (by omega)]

theorem orr128 (m : Nat) (hm : m < 128) : binV .or .u32 (m : Int) 128 = some (.int .u32 ((m + 128 : Nat) : Int)) := by
  have e1 : BitVec.ofInt 32 (m : Int) = BitVec.ofNat 32 m := by simp
  have e2 : (BitVec.ofNat 32 m ||| BitVec.ofNat 32 128).toNat = m + 128 := by
    rw [BitVec.toNat_or, BitVec.toNat_ofNat, BitVec.toNat_ofNat, Nat.mod_eq_of_lt (by omega)]
    exact or128 m hm
  have e3 : BitVec.ofInt 32 128 = BitVec.ofNat 32 128 := rfl
  have key : (BitVec.ofInt 32 (m : Int) ||| BitVec.ofInt 32 128).toNat = m + 128 := by rw [e1, e3]; exact e2
  show some (Value.int .u32 (IntKind.u32.wrap (((BitVec.ofInt 32 (m : Int) ||| BitVec.ofInt 32 128).toNat : Nat) : Int))) = _
  rw [key, wrap_u32 _ (by omega)]

/-- A group that more groups follow. -/
theorem np_grp {x : SV} {m i1 i2 i3 : Nat} {η : Nat → Value} {w : World} {k : NP} {Q : Out → (Nat → Value) → World → Prop} (hx : x.val η = .int .u32 (m : Int)) (hm : m < 2 ^ 32)
    (h : k.wp P Q (upd (upd (upd η i1 (.int .u32 ((m % 128 : Nat) : Int))) i2 (.int .u32 ((m % 128 + 128 : Nat) : Int))) i3 (u8 (UInt8.ofNat (m % 128 + 128)))) w) :
    (NP.op (.bin .and) [x, .k (.int .u32 127)] i1 <| .op (.bin .or) [.s i1, .k (.int .u32 128)] i2 <| .op (.cv .u8) [.s i2] i3 k).wp P Q η w := by
  refine np_op (vs := [.int .u32 (m : Int), .int .u32 127]) (by simp [hx]; rfl) ⟨.u32, _, _, _, rfl, and127 m hm, ?_⟩
  refine np_op (vs := [.int .u32 ((m % 128 : Nat) : Int), .int .u32 128]) (by simp [SV.val, upd]) ⟨.u32, _, _, _, rfl, orr128 (m % 128) (by omega), ?_⟩
  refine np_op (vs := [.int .u32 ((m % 128 + 128 : Nat) : Int)]) (by simp [SV.val, upd]) ⟨.u32, _, rfl, ?_⟩
  have e := wrap_u8 (m % 128 + 128)
  rw [Nat.mod_eq_of_lt (show m % 128 + 128 < 256 by omega)] at e
  rw [e]
  exact h

theorem np_shr {m s i : Nat} {x : SV} {η : Nat → Value} {w : World} {k : NP} {Q : Out → (Nat → Value) → World → Prop} (hx : x.val η = .int .u32 (m : Int)) (hs : s ≤ 32) (h : k.wp P Q (upd η i (.int .u32 ((m / 2 ^ s : Nat) : Int))) w) :
    (NP.op (.sh .shr) [x, .k (.int .u64 (s : Int))] i k).wp P Q η w :=
  np_op (vs := [.int .u32 (m : Int), .int .u64 (s : Int)]) (by simp [hx]; rfl) ⟨.u32, _, .u64, s, _, rfl, shr_nat .u32 m s hs, h⟩

/-- The last group. -/
theorem np_last {m i : Nat} {x : SV} {η : Nat → Value} {w : World} {k : NP} {Q : Out → (Nat → Value) → World → Prop} (hx : x.val η = .int .u32 (m : Int)) (h : k.wp P Q (upd η i (u8 (UInt8.ofNat (m % 256)))) w) :
    (NP.op (.cv .u8) [x] i k).wp P Q η w :=
  np_op (vs := [.int .u32 (m : Int)]) (by simp [hx]) ⟨.u32, _, rfl, by rw [wrap_u8]; exact h⟩

theorem np_eqI {a : Int} {c : Int} {x i : Nat} {η : Nat → Value} {w : World} {k : NP} {Q : Out → (Nat → Value) → World → Prop} (hx : η x = .int .i64 a) (h : k.wp P Q (upd η i (.bool (a == c))) w) :
    (NP.op (.bin .eql) [.s x, .k (.int .i64 c)] i k).wp P Q η w :=
  np_op (vs := [.int .i64 a, .int .i64 c]) (by simp [SV.val, hx]) ⟨.i64, _, _, _, rfl, rfl, h⟩

def uvRep : (Nat → Prop) → World → Nat → Value → Prop := fun _ _ n v => v = .int .u32 (n : Int) ∧ n < 2 ^ 32

theorem ofNat_mod (m : Nat) : UInt8.ofNat (m % 256) = UInt8.ofNat m := by
  apply UInt8.toNat_inj.1
  simp

theorem appendUvarint_okG (hn : Named P) {I : Ids} {f : FuncId} (hf : fnP P f 2 = some (p_appendUvarint I)) (hl : UvLenOk P I.uvarintLen) : AppendsG P I.e8 f wrUv uvRep := by
  intro w B d out n v K ho hv hlim hk
  obtain ⟨hv, hlt⟩ := hv
  subst hv
  refine calls_of_np hn (vs := [d, .int .u32 (n : Int)]) hf fun η hη => ?_
  have h0 : η 0 = d := hη 0 (by simp)
  have h1 : η 1 = .int .u32 (n : Int) := hη 1 (by simp)
  have hQ : ∀ d' w', K d' w' → ∀ η : Nat → Value, postP [.direct] K (.ret [d']) η w' := fun d' w' h _ => h
  refine np_op (vs := [.int .u32 (n : Int)]) (by simp [SV.val, h1]) (hl w n _ hlt ?_)
  refine np_eqI (a := ((wrUv n).length : Int)) (by simp [upd]) ?_
  refine np_ite (((wrUv n).length : Int) == 5) (by simp [SV.val, upd]) ?_
  by_cases a5 : 268435456 ≤ n
  · have hw : wrUv n = [UInt8.ofNat (n % 128 + 128), UInt8.ofNat (n / 128 % 128 + 128), UInt8.ofNat (n / 128 / 128 % 128 + 128), UInt8.ofNat (n / 128 / 128 / 128 % 128 + 128), UInt8.ofNat (n / 128 / 128 / 128 / 128)] := by
      have b1 : ¬ n < 128 := by omega
      have b2 : ¬ n / 128 < 128 := by omega
      have b3 : ¬ n / 128 / 128 < 128 := by omega
      have b4 : ¬ n / 128 / 128 / 128 < 128 := by omega
      unfold wrUv
      simp only [wrV, b1, b2, b3, b4, if_true, if_false]
    have hlen : (((wrUv n).length : Int) == 5) = true := by rw [hw]; rfl
    rw [hlen]
    simp only [if_true]
    refine np_grp (m := n) (by simp [SV.val, upd, h1]) (by omega) ?_
    refine np_shr (m := n) (s := 7) (by simp [SV.val, upd, h1]) (by omega) ?_
    refine np_grp (m := n / 2 ^ 7) (by simp [SV.val, upd, h1]) (by omega) ?_
    refine np_shr (m := n) (s := 14) (by simp [SV.val, upd, h1]) (by omega) ?_
    refine np_grp (m := n / 2 ^ 14) (by simp [SV.val, upd, h1]) (by omega) ?_
    refine np_shr (m := n) (s := 21) (by simp [SV.val, upd, h1]) (by omega) ?_
    refine np_grp (m := n / 2 ^ 21) (by simp [SV.val, upd, h1]) (by omega) ?_
    refine np_shr (m := n) (s := 28) (by simp [SV.val, upd, h1]) (by omega) ?_
    refine np_last (m := n / 2 ^ 28) (by simp [SV.val, upd, h1]) ?_
    refine wp_lay' (fun d' w' h _ => h) ho (bs := wrUv n) ?_ (by simp [upd, h0]) (by simp) hlim hk
    rw [hw]
    simp [SV.val, upd, Nat.div_div_eq_div_mul, ofNat_mod]
  have hne5 : (((wrUv n).length : Int) == 5) = false := by
    have h7 := bitlen_le n 7
    have h14 := bitlen_le n 14
    have h21 := bitlen_le n 21
    have h28 := bitlen_le n 28
    simp only [Nat.reducePow] at h7 h14 h21 h28
    rw [wrUv_groups]; unfold groups; simp only [h7, h14, h21, h28]
    by_cases c1 : n < 128 <;> by_cases c2 : n < 16384 <;> by_cases c3 : n < 2097152 <;> by_cases c4 : n < 268435456 <;> simp [c1, c2, c3, c4] <;> omega
  rw [hne5]
  simp only [Bool.false_eq_true, if_false]
  refine np_eqI (a := ((wrUv n).length : Int)) (by simp [upd]) ?_
  refine np_ite (((wrUv n).length : Int) == 4) (by simp [SV.val, upd]) ?_
  by_cases a4 : 2097152 ≤ n
  · have hw : wrUv n = [UInt8.ofNat (n % 128 + 128), UInt8.ofNat (n / 128 % 128 + 128), UInt8.ofNat (n / 128 / 128 % 128 + 128), UInt8.ofNat (n / 128 / 128 / 128)] := by
      have b1 : ¬ n < 128 := by omega
      have b2 : ¬ n / 128 < 128 := by omega
      have b3 : ¬ n / 128 / 128 < 128 := by omega
      have c : n / 128 / 128 / 128 < 128 := by omega
      unfold wrUv
      simp only [wrV, b1, b2, b3, c, if_true, if_false]
    have hlen : (((wrUv n).length : Int) == 4) = true := by rw [hw]; rfl
    rw [hlen]
    simp only [if_true]
    refine np_grp (m := n) (by simp [SV.val, upd, h1]) (by omega) ?_
    refine np_shr (m := n) (s := 7) (by simp [SV.val, upd, h1]) (by omega) ?_
    refine np_grp (m := n / 2 ^ 7) (by simp [SV.val, upd, h1]) (by omega) ?_
    refine np_shr (m := n) (s := 14) (by simp [SV.val, upd, h1]) (by omega) ?_
    refine np_grp (m := n / 2 ^ 14) (by simp [SV.val, upd, h1]) (by omega) ?_
    refine np_shr (m := n) (s := 21) (by simp [SV.val, upd, h1]) (by omega) ?_
    refine np_last (m := n / 2 ^ 21) (by simp [SV.val, upd, h1]) ?_
    refine wp_lay' (fun d' w' h _ => h) ho (bs := wrUv n) ?_ (by simp [upd, h0]) (by simp) hlim hk
    rw [hw]
    simp [SV.val, upd, Nat.div_div_eq_div_mul, ofNat_mod]
  have hne4 : (((wrUv n).length : Int) == 4) = false := by
    have h7 := bitlen_le n 7
    have h14 := bitlen_le n 14
    have h21 := bitlen_le n 21
    have h28 := bitlen_le n 28
    simp only [Nat.reducePow] at h7 h14 h21 h28
    rw [wrUv_groups]; unfold groups; simp only [h7, h14, h21, h28]
    by_cases c1 : n < 128 <;> by_cases c2 : n < 16384 <;> by_cases c3 : n < 2097152 <;> by_cases c4 : n < 268435456 <;> simp [c1, c2, c3, c4] <;> omega
  rw [hne4]
  simp only [Bool.false_eq_true, if_false]
  refine np_eqI (a := ((wrUv n).length : Int)) (by simp [upd]) ?_
  refine np_ite (((wrUv n).length : Int) == 3) (by simp [SV.val, upd]) ?_
  by_cases a3 : 16384 ≤ n
  · have hw : wrUv n = [UInt8.ofNat (n % 128 + 128), UInt8.ofNat (n / 128 % 128 + 128), UInt8.ofNat (n / 128 / 128)] := by
      have b1 : ¬ n < 128 := by omega
      have b2 : ¬ n / 128 < 128 := by omega
      have c : n / 128 / 128 < 128 := by omega
      unfold wrUv
      simp only [wrV, b1, b2, c, if_true, if_false]
    have hlen : (((wrUv n).length : Int) == 3) = true := by rw [hw]; rfl
    rw [hlen]
    simp only [if_true]
    refine np_grp (m := n) (by simp [SV.val, upd, h1]) (by omega) ?_
    refine np_shr (m := n) (s := 7) (by simp [SV.val, upd, h1]) (by omega) ?_
    refine np_grp (m := n / 2 ^ 7) (by simp [SV.val, upd, h1]) (by omega) ?_
    refine np_shr (m := n) (s := 14) (by simp [SV.val, upd, h1]) (by omega) ?_
    refine np_last (m := n / 2 ^ 14) (by simp [SV.val, upd, h1]) ?_
    refine wp_lay' (fun d' w' h _ => h) ho (bs := wrUv n) ?_ (by simp [upd, h0]) (by simp) hlim hk
    rw [hw]
    simp [SV.val, upd, Nat.div_div_eq_div_mul, ofNat_mod]
  have hne3 : (((wrUv n).length : Int) == 3) = false := by
    have h7 := bitlen_le n 7
    have h14 := bitlen_le n 14
    have h21 := bitlen_le n 21
    have h28 := bitlen_le n 28
    simp only [Nat.reducePow] at h7 h14 h21 h28
    rw [wrUv_groups]; unfold groups; simp only [h7, h14, h21, h28]
    by_cases c1 : n < 128 <;> by_cases c2 : n < 16384 <;> by_cases c3 : n < 2097152 <;> by_cases c4 : n < 268435456 <;> simp [c1, c2, c3, c4] <;> omega
  rw [hne3]
  simp only [Bool.false_eq_true, if_false]
  refine np_eqI (a := ((wrUv n).length : Int)) (by simp [upd]) ?_
  refine np_ite (((wrUv n).length : Int) == 2) (by simp [SV.val, upd]) ?_
  by_cases a2 : 128 ≤ n
  · have hw : wrUv n = [UInt8.ofNat (n % 128 + 128), UInt8.ofNat (n / 128)] := by
      have b1 : ¬ n < 128 := by omega
      have c : n / 128 < 128 := by omega
      unfold wrUv
      simp only [wrV, b1, c, if_true, if_false]
    have hlen : (((wrUv n).length : Int) == 2) = true := by rw [hw]; rfl
    rw [hlen]
    simp only [if_true]
    refine np_grp (m := n) (by simp [SV.val, upd, h1]) (by omega) ?_
    refine np_shr (m := n) (s := 7) (by simp [SV.val, upd, h1]) (by omega) ?_
    refine np_last (m := n / 2 ^ 7) (by simp [SV.val, upd, h1]) ?_
    refine wp_lay' (fun d' w' h _ => h) ho (bs := wrUv n) ?_ (by simp [upd, h0]) (by simp) hlim hk
    rw [hw]
    simp [SV.val, upd, Nat.div_div_eq_div_mul, ofNat_mod]
  have hne2 : (((wrUv n).length : Int) == 2) = false := by
    have h7 := bitlen_le n 7
    have h14 := bitlen_le n 14
    have h21 := bitlen_le n 21
    have h28 := bitlen_le n 28
    simp only [Nat.reducePow] at h7 h14 h21 h28
    rw [wrUv_groups]; unfold groups; simp only [h7, h14, h21, h28]
    by_cases c1 : n < 128 <;> by_cases c2 : n < 16384 <;> by_cases c3 : n < 2097152 <;> by_cases c4 : n < 268435456 <;> simp [c1, c2, c3, c4] <;> omega
  rw [hne2]
  simp only [Bool.false_eq_true, if_false]
  refine np_eqI (a := ((wrUv n).length : Int)) (by simp [upd]) ?_
  refine np_ite (((wrUv n).length : Int) == 1) (by simp [SV.val, upd]) ?_
  · have hw : wrUv n = [UInt8.ofNat n] := by
      have c : n < 128 := by omega
      unfold wrUv
      simp only [wrV, c, if_true, if_false]
    have hlen : (((wrUv n).length : Int) == 1) = true := by rw [hw]; rfl
    rw [hlen]
    simp only [if_true]
    refine np_last (m := n) (by simp [SV.val, upd, h1]) ?_
    refine wp_lay' (fun d' w' h _ => h) ho (bs := wrUv n) ?_ (by simp [upd, h0]) (by simp) hlim hk
    rw [hw]
    simp [SV.val, upd, Nat.div_div_eq_div_mul, ofNat_mod]

theorem appendUvarint_ok (hn : Named P) {I : Ids} {f : FuncId} (hf : fnP P f 2 = some (p_appendUvarint I)) (hl : UvLenOk P I.uvarintLen) : Appends P I.e8 f wrUv uvRep := (appendUvarint_okG hn hf hl).app

end
end Go.Kb

/- What kbin's writers do: lengths, texts, octets. -/
namespace Go.Kb
open Go.Lx Go.Nx Go.Km Go.Mx

set_option linter.unusedSimpArgs false
set_option linter.unusedVariables false

section
variable {P : Program}

/-- A primitive's writer. -/
def AppPrim (P : Program) (e : TypeId) (f : FuncId) (p : Prim) : Prop := Appends P e f (wrP p) (fun ok w x v => RepP ok w p x v ∧ okP p x)

def lenRep : (Nat → Prop) → World → Nat → Value → Prop := fun _ _ n v => v = .int .i64 (n : Int) ∧ n < 2147483647

theorem wrap32 (n : Nat) (h : n < 2147483648) : IntKind.i32.wrap (n : Int) = (n : Int) := by
  simp only [IntKind.wrap, IntKind.bits, IntKind.signed]
  simp
  omega

theorem wrap16 (n : Nat) (h : n < 32768) : IntKind.i16.wrap (n : Int) = (n : Int) := by
  simp only [IntKind.wrap, IntKind.bits, IntKind.signed]
  simp
  omega

theorem appendArrayLen_ok (hn : Named P) {I : Ids} {f : FuncId} (hf : fnP P f 2 = some (p_appendArrayLen I)) (hi : Appends P I.e8 I.appendInt32 (wrI 4) (intRep .i32)) : Appends P I.e8 f (wrCount false) lenRep := by
  intro w B d out n v K ho hv hl hk
  obtain ⟨hv, hlt⟩ := hv
  subst hv
  refine calls_of_np hn (vs := [d, .int .i64 (n : Int)]) hf fun η hη => ?_
  have h0 : η 0 = d := hη 0 (by simp)
  have h1 : η 1 = .int .i64 (n : Int) := hη 1 (by simp)
  refine np_op (vs := [.int .i64 (n : Int)]) (by simp [SV.val, h1]) ⟨.i64, _, rfl, ?_⟩
  rw [wrap32 n (by omega)]
  refine np_op (vs := [d, .int .i32 (n : Int)]) (by simp [SV.val, upd, h0]) (hi w B d out (n : Int) _ _ ho rfl hl fun d' w' o' k' => ?_)
  show K (pack _) w'
  simpa [SV.val, upd, pack] using hk d' w' o' k'

theorem appendCompactArrayLen_ok (hn : Named P) {I : Ids} {f : FuncId} (hf : fnP P f 2 = some (p_appendCompactArrayLen I)) (hu : Appends P I.e8 I.appendUvarint wrUv uvRep) : Appends P I.e8 f (wrCount true) lenRep := by
  intro w B d out n v K ho hv hl hk
  obtain ⟨hv, hlt⟩ := hv
  subst hv
  refine calls_of_np hn (vs := [d, .int .i64 (n : Int)]) hf fun η hη => ?_
  have h0 : η 0 = d := hη 0 (by simp)
  have h1 : η 1 = .int .i64 (n : Int) := hη 1 (by simp)
  refine np_op (vs := [.int .i64 (n : Int)]) (by simp [SV.val, h1]) ⟨.i64, _, rfl, ?_⟩
  rw [wrap_u32 n (by omega)]
  refine np_op (vs := [.int .u32 1, .int .u32 (n : Int)]) (by simp [SV.val, upd]) ⟨.u32, _, _, _, rfl, rfl, ?_⟩
  rw [show (1 : Int) + (n : Int) = ((n + 1 : Nat) : Int) by omega, wrap_u32 (n + 1) (by omega)]
  refine np_op (vs := [d, .int .u32 ((n + 1 : Nat) : Int)]) (by simp [SV.val, upd, h0]) (hu w B d out (n + 1) _ _ ho ⟨rfl, by omega⟩ hl fun d' w' o' k' => ?_)
  show K (pack _) w'
  simpa [SV.val, upd, pack] using hk d' w' o' k'

theorem appendString_ok (hn : Named P) {I : Ids} {f : FuncId} (hf : fnP P f 2 = some (p_appendString I)) (hi : Appends P I.e8 I.appendInt16 (wrI 2) (intRep .i16)) : AppPrim P I.e8 f (.str false) := by
  intro w B d out x v K ho hv hl hk
  obtain ⟨hv, hok⟩ := hv
  cases x with
  | «by» l =>
    have hv : v = .string ⟨l.toArray⟩ := hv
    have hok : l.length ≤ 32767 := hok
    subst hv
    refine calls_of_np hn (vs := [d, .string ⟨l.toArray⟩]) hf fun η hη => ?_
    have h0 : η 0 = d := hη 0 (by simp)
    have h1 : η 1 = .string ⟨l.toArray⟩ := hη 1 (by simp)
    have hlen : wrP (.str false) (.by l) = wrI 2 (l.length : Int) ++ l := rfl
    rw [hlen, List.length_append] at hl
    refine np_op (vs := [.string ⟨l.toArray⟩]) (by simp [SV.val, h1]) ⟨_, rfl, ?_⟩
    refine np_op (vs := [.int .i64 (l.length : Int)]) (by simp [SV.val, upd, goInt, ByteArray.size]) ⟨.i64, _, rfl, ?_⟩
    rw [wrap16 _ (by omega)]
    refine np_op (vs := [d, .int .i16 (l.length : Int)]) (by simp [SV.val, upd, h0]) (hi w B d out _ _ _ ho rfl (by omega) fun d' w' o' k' => ?_)
    refine np_op (vs := [d', .string ⟨l.toArray⟩]) (by simp [SV.val, upd, h1]) (wp_appSB o' (by rw [List.length_append]; omega) fun d2 w2 o2 k2 => ?_)
    show K (pack _) w2
    rw [List.append_assoc] at o2
    simpa [SV.val, upd, pack] using hk d2 w2 o2 (k'.trans k2)
  | _ => exact hv.elim

theorem appendCompactString_ok (hn : Named P) {I : Ids} {f : FuncId} (hf : fnP P f 2 = some (p_appendCompactString I)) (hu : Appends P I.e8 I.appendUvarint wrUv uvRep) : AppPrim P I.e8 f (.str true) := by
  intro w B d out x v K ho hv hl hk
  obtain ⟨hv, hok⟩ := hv
  cases x with
  | «by» l =>
    have hv : v = .string ⟨l.toArray⟩ := hv
    have hok : l.length ≤ 32767 := hok
    subst hv
    refine calls_of_np hn (vs := [d, .string ⟨l.toArray⟩]) hf fun η hη => ?_
    have h0 : η 0 = d := hη 0 (by simp)
    have h1 : η 1 = .string ⟨l.toArray⟩ := hη 1 (by simp)
    have hlen : wrP (.str true) (.by l) = wrUv (l.length + 1) ++ l := rfl
    rw [hlen, List.length_append] at hl
    refine np_op (vs := [.string ⟨l.toArray⟩]) (by simp [SV.val, h1]) ⟨_, rfl, ?_⟩
    refine np_op (vs := [.int .i64 (l.length : Int)]) (by simp [SV.val, upd, goInt, ByteArray.size]) ⟨.i64, _, rfl, ?_⟩
    rw [wrap_u32 _ (by omega)]
    refine np_op (vs := [.int .u32 1, .int .u32 (l.length : Int)]) (by simp [SV.val, upd]) ⟨.u32, _, _, _, rfl, rfl, ?_⟩
    rw [show (1 : Int) + (l.length : Int) = ((l.length + 1 : Nat) : Int) by omega, wrap_u32 (l.length + 1) (by omega)]
    refine np_op (vs := [d, .int .u32 ((l.length + 1 : Nat) : Int)]) (by simp [SV.val, upd, h0]) (hu w B d out _ _ _ ho ⟨rfl, by omega⟩ (by omega) fun d' w' o' k' => ?_)
    refine np_op (vs := [d', .string ⟨l.toArray⟩]) (by simp [SV.val, upd, h1]) (wp_appSB o' (by rw [List.length_append]; omega) fun d2 w2 o2 k2 => ?_)
    show K (pack _) w2
    rw [List.append_assoc] at o2
    simpa [SV.val, upd, pack] using hk d2 w2 o2 (k'.trans k2)
  | _ => exact hv.elim

/-- Octets behind a length. -/
def bytRep : (Nat → Prop) → World → Bs → Value → Prop := fun ok w l v => Sl ok w v l ∧ l.length ≤ 32767

theorem appendBytes_raw (hn : Named P) {I : Ids} {f : FuncId} (hf : fnP P f 2 = some (p_appendBytes I)) (hi : Appends P I.e8 I.appendInt32 (wrI 4) (intRep .i32)) : Appends P I.e8 f (fun l : Bs => wrLen false 4 l.length ++ l) bytRep := by
  intro w B d out l v K ho hv hl hk
  obtain ⟨hv, hok⟩ := hv
  obtain ⟨a, c, hsl, _⟩ := sl_slice hv
  refine calls_of_np hn (vs := [d, v]) hf fun η hη => ?_
  have h0 : η 0 = d := hη 0 (by simp)
  have h1 : η 1 = v := hη 1 (by simp)
  have hlen : (wrLen false 4 l.length ++ l).length = (wrI 4 (l.length : Int)).length + l.length := by rw [List.length_append]; rfl
  rw [hlen] at hl
  refine np_op (vs := [v]) (by simp [SV.val, h1]) ⟨a, l.length, c, by rw [hsl], ?_⟩
  refine np_op (vs := [.int .i64 (l.length : Int)]) (by simp [SV.val, upd, goInt]) ⟨.i64, _, rfl, ?_⟩
  rw [wrap32 _ (by omega)]
  refine np_op (vs := [d, .int .i32 (l.length : Int)]) (by simp [SV.val, upd, h0]) (hi w B d out _ _ _ ho rfl (by omega) fun d' w' o' k' => ?_)
  have hv' := hv.same (Same.below k'.toBelow (fun k h => h))
  refine np_op (vs := [d', v]) (by simp [SV.val, upd, h1]) (wp_appB o' hv'.sl0 (by rw [List.length_append]; omega) fun d2 w2 o2 k2 => ?_)
  show K (pack _) w2
  rw [List.append_assoc] at o2
  simpa [SV.val, upd, pack] using hk d2 w2 o2 (k'.trans k2)

theorem appendCompactBytes_raw (hn : Named P) {I : Ids} {f : FuncId} (hf : fnP P f 2 = some (p_appendCompactBytes I)) (hu : Appends P I.e8 I.appendUvarint wrUv uvRep) : Appends P I.e8 f (fun l : Bs => wrLen true 4 l.length ++ l) bytRep := by
  intro w B d out l v K ho hv hl hk
  obtain ⟨hv, hok⟩ := hv
  obtain ⟨a, c, hsl, _⟩ := sl_slice hv
  refine calls_of_np hn (vs := [d, v]) hf fun η hη => ?_
  have h0 : η 0 = d := hη 0 (by simp)
  have h1 : η 1 = v := hη 1 (by simp)
  have hlen : (wrLen true 4 l.length ++ l).length = (wrUv (l.length + 1)).length + l.length := by rw [List.length_append]; rfl
  rw [hlen] at hl
  refine np_op (vs := [v]) (by simp [SV.val, h1]) ⟨a, l.length, c, by rw [hsl], ?_⟩
  refine np_op (vs := [.int .i64 (l.length : Int)]) (by simp [SV.val, upd, goInt]) ⟨.i64, _, rfl, ?_⟩
  rw [wrap_u32 _ (by omega)]
  refine np_op (vs := [.int .u32 1, .int .u32 (l.length : Int)]) (by simp [SV.val, upd]) ⟨.u32, _, _, _, rfl, rfl, ?_⟩
  rw [show (1 : Int) + (l.length : Int) = ((l.length + 1 : Nat) : Int) by omega, wrap_u32 (l.length + 1) (by omega)]
  refine np_op (vs := [d, .int .u32 ((l.length + 1 : Nat) : Int)]) (by simp [SV.val, upd, h0]) (hu w B d out _ _ _ ho ⟨rfl, by omega⟩ (by omega) fun d' w' o' k' => ?_)
  have hv' := hv.same (Same.below k'.toBelow (fun k h => h))
  refine np_op (vs := [d', v]) (by simp [SV.val, upd, h1]) (wp_appB o' hv'.sl0 (by rw [List.length_append]; omega) fun d2 w2 o2 k2 => ?_)
  show K (pack _) w2
  rw [List.append_assoc] at o2
  simpa [SV.val, upd, pack] using hk d2 w2 o2 (k'.trans k2)

theorem prim_byt {e : TypeId} {f : FuncId} {c : Bool} (h : Appends P e f (fun l : Bs => wrLen c 4 l.length ++ l) bytRep) : AppPrim P e f (.byt c) := by
  intro w B d out x v K ho hv hl hk
  obtain ⟨hv, hok⟩ := hv
  cases x with
  | «by» l => exact h w B d out l v K ho ⟨hv, hok⟩ hl hk
  | _ => exact hv.elim

theorem appendNullableString_ok (hn : Named P) {I : Ids} {f : FuncId} (hf : fnP P f 2 = some (p_appendNullableString I)) (hi : Appends P I.e8 I.appendInt16 (wrI 2) (intRep .i16)) (hs : AppPrim P I.e8 I.appendString (.str false)) : AppPrim P I.e8 f (.nstr false) := by
  intro w B d out x v K ho hv hl hk
  obtain ⟨hv, hok⟩ := hv
  refine calls_of_np hn (vs := [d, v]) hf fun η hη => ?_
  have h0 : η 0 = d := hη 0 (by simp)
  have h1 : η 1 = v := hη 1 (by simp)
  match x, hv, hok, hl, hk with
  | .o none, hv, hok, hl, hk =>
    have hv : v = .pointer none := hv
    subst hv
    refine np_op (vs := [.pointer none]) (by simp [SV.val, h1]) ⟨_, true, rfl, rfl, ?_⟩
    refine np_ite true (by simp [SV.val, upd]) ?_
    simp only [if_true]
    refine np_op (vs := [d, .int .i16 (-1)]) (by simp [SV.val, upd, h0]) (hi w B d out (-1) _ _ ho rfl hl fun d' w' o' k' => ?_)
    show K (pack _) w'
    simpa [SV.val, upd, pack] using hk d' w' o' k'
  | .o (some l), hv, hok, hl, hk =>
    obtain ⟨b, hv, hb, hrow⟩ := hv
    subst hv
    refine np_op (vs := [ptr b]) (by simp [SV.val, h1]) ⟨_, false, rfl, rfl, ?_⟩
    refine np_ite false (by simp [SV.val, upd]) ?_
    simp only [Bool.false_eq_true, if_false]
    refine ⟨⟨_, by simp [upd, h1]; rfl⟩, ?_⟩
    refine np_op (vs := [ptr b]) (by simp [SV.val, upd, h1, add0]) (wp_load hrow rfl ?_)
    refine np_op (vs := [d, .string ⟨l.toArray⟩]) (by simp [SV.val, upd, h0]) (hs w B d out (.by l) _ _ ho ⟨rfl, hok l rfl⟩ hl fun d' w' o' k' => ?_)
    show K (pack _) w'
    simpa [SV.val, upd, pack] using hk d' w' o' k'

theorem appendCompactNullableString_ok (hn : Named P) {I : Ids} {f : FuncId} (hf : fnP P f 2 = some (p_appendCompactNullableString I)) (hi : Appends P I.e8 I.appendUvarint wrUv uvRep) (hs : AppPrim P I.e8 I.appendCompactString (.str true)) : AppPrim P I.e8 f (.nstr true) := by
  intro w B d out x v K ho hv hl hk
  obtain ⟨hv, hok⟩ := hv
  refine calls_of_np hn (vs := [d, v]) hf fun η hη => ?_
  have h0 : η 0 = d := hη 0 (by simp)
  have h1 : η 1 = v := hη 1 (by simp)
  match x, hv, hok, hl, hk with
  | .o none, hv, hok, hl, hk =>
    have hv : v = .pointer none := hv
    subst hv
    refine np_op (vs := [.pointer none]) (by simp [SV.val, h1]) ⟨_, true, rfl, rfl, ?_⟩
    refine np_ite true (by simp [SV.val, upd]) ?_
    simp only [if_true]
    refine np_op (vs := [d, .int .u32 0]) (by simp [SV.val, upd, h0]) (hi w B d out 0 _ _ ho ⟨rfl, by omega⟩ hl fun d' w' o' k' => ?_)
    show K (pack _) w'
    simpa [SV.val, upd, pack] using hk d' w' o' k'
  | .o (some l), hv, hok, hl, hk =>
    obtain ⟨b, hv, hb, hrow⟩ := hv
    subst hv
    refine np_op (vs := [ptr b]) (by simp [SV.val, h1]) ⟨_, false, rfl, rfl, ?_⟩
    refine np_ite false (by simp [SV.val, upd]) ?_
    simp only [Bool.false_eq_true, if_false]
    refine ⟨⟨_, by simp [upd, h1]; rfl⟩, ?_⟩
    refine np_op (vs := [ptr b]) (by simp [SV.val, upd, h1, add0]) (wp_load hrow rfl ?_)
    refine np_op (vs := [d, .string ⟨l.toArray⟩]) (by simp [SV.val, upd, h0]) (hs w B d out (.by l) _ _ ho ⟨rfl, hok l rfl⟩ hl fun d' w' o' k' => ?_)
    show K (pack _) w'
    simpa [SV.val, upd, pack] using hk d' w' o' k'

theorem appendNullableBytes_ok (hn : Named P) {I : Ids} {f : FuncId} (hf : fnP P f 2 = some (p_appendNullableBytes I)) (hi : Appends P I.e8 I.appendInt32 (wrI 4) (intRep .i32)) (hs : Appends P I.e8 I.appendBytes (fun l : Bs => wrLen false 4 l.length ++ l) bytRep) : AppPrim P I.e8 f (.nbyt false) := by
  intro w B d out x v K ho hv hl hk
  obtain ⟨hv, hok⟩ := hv
  refine calls_of_np hn (vs := [d, v]) hf fun η hη => ?_
  have h0 : η 0 = d := hη 0 (by simp)
  have h1 : η 1 = v := hη 1 (by simp)
  match x, hv, hok, hl, hk with
  | .o none, hv, hok, hl, hk =>
    have hv : v = .slice none 0 0 := hv
    subst hv
    refine np_op (vs := [.slice none 0 0]) (by simp [SV.val, h1]) ⟨_, true, rfl, rfl, ?_⟩
    refine np_ite true (by simp [SV.val, upd]) ?_
    simp only [if_true]
    refine np_op (vs := [d, .int .i32 (-1)]) (by simp [SV.val, upd, h0]) (hi w B d out (-1) _ _ ho rfl hl fun d' w' o' k' => ?_)
    show K (pack _) w'
    simpa [SV.val, upd, pack] using hk d' w' o' k'
  | .o (some l), hv, hok, hl, hk =>
    obtain ⟨hsl, hne⟩ := hv
    have hnil : nilV 1 v = some false := by
      rcases hsl with ⟨h, _⟩ | ⟨a, c, rfl, _⟩
      · exact (hne h).elim
      · rfl
    refine np_op (vs := [v]) (by simp [SV.val, h1]) ⟨_, false, rfl, hnil, ?_⟩
    refine np_ite false (by simp [SV.val, upd]) ?_
    simp only [Bool.false_eq_true, if_false]
    refine np_op (vs := [d, v]) (by simp [SV.val, upd, h0, h1]) (hs w B d out l _ _ ho ⟨hsl, hok l rfl⟩ hl fun d' w' o' k' => ?_)
    show K (pack _) w'
    simpa [SV.val, upd, pack] using hk d' w' o' k'

theorem appendCompactNullableBytes_ok (hn : Named P) {I : Ids} {f : FuncId} (hf : fnP P f 2 = some (p_appendCompactNullableBytes I)) (hi : Appends P I.e8 I.appendUvarint wrUv uvRep) (hs : Appends P I.e8 I.appendCompactBytes (fun l : Bs => wrLen true 4 l.length ++ l) bytRep) : AppPrim P I.e8 f (.nbyt true) := by
  intro w B d out x v K ho hv hl hk
  obtain ⟨hv, hok⟩ := hv
  refine calls_of_np hn (vs := [d, v]) hf fun η hη => ?_
  have h0 : η 0 = d := hη 0 (by simp)
  have h1 : η 1 = v := hη 1 (by simp)
  match x, hv, hok, hl, hk with
  | .o none, hv, hok, hl, hk =>
    have hv : v = .slice none 0 0 := hv
    subst hv
    refine np_op (vs := [.slice none 0 0]) (by simp [SV.val, h1]) ⟨_, true, rfl, rfl, ?_⟩
    refine np_ite true (by simp [SV.val, upd]) ?_
    simp only [if_true]
    refine np_op (vs := [d, .int .u32 0]) (by simp [SV.val, upd, h0]) (hi w B d out 0 _ _ ho ⟨rfl, by omega⟩ hl fun d' w' o' k' => ?_)
    show K (pack _) w'
    simpa [SV.val, upd, pack] using hk d' w' o' k'
  | .o (some l), hv, hok, hl, hk =>
    obtain ⟨hsl, hne⟩ := hv
    have hnil : nilV 1 v = some false := by
      rcases hsl with ⟨h, _⟩ | ⟨a, c, rfl, _⟩
      · exact (hne h).elim
      · rfl
    refine np_op (vs := [v]) (by simp [SV.val, h1]) ⟨_, false, rfl, hnil, ?_⟩
    refine np_ite false (by simp [SV.val, upd]) ?_
    simp only [Bool.false_eq_true, if_false]
    refine np_op (vs := [d, v]) (by simp [SV.val, upd, h0, h1]) (hs w B d out l _ _ ho ⟨hsl, hok l rfl⟩ hl fun d' w' o' k' => ?_)
    show K (pack _) w'
    simpa [SV.val, upd, pack] using hk d' w' o' k'

/-- A list's length, or that there is none. -/
def AppN (P : Program) (e : TypeId) (f : FuncId) (c : Bool) : Prop :=
  ∀ (w : World) (B : Nat) (d : Value) (out : Bs) (n : Nat) (b : Bool) (K : Value → World → Prop), Own w B e d out → n < 2147483647 → out.length + (if b then wrNull c 4 else wrCount c n).length ≤ lim →
    (∀ d' w', Own w' B e d' (out ++ (if b then wrNull c 4 else wrCount c n)) → Bl B w d w' d' → K d' w') → In.wp P (.call f) [d, .int .i64 (n : Int), .bool b] w K

theorem appendNullableArrayLen_ok (hn : Named P) {I : Ids} {f : FuncId} (hf : fnP P f 3 = some (p_appendNullableArrayLen I)) (hi : Appends P I.e8 I.appendInt32 (wrI 4) (intRep .i32)) : AppN P I.e8 f false := by
  intro w B d out n b K ho hlt hl hk
  refine calls_of_np hn (vs := [d, .int .i64 (n : Int), .bool b]) hf fun η hη => ?_
  have h0 : η 0 = d := hη 0 (by simp)
  have h1 : η 1 = .int .i64 (n : Int) := hη 1 (by simp)
  have h2 : η 2 = .bool b := hη 2 (by simp)
  refine np_ite b (by simp [SV.val, h2]) ?_
  cases b with
  | true =>
    simp only [if_true] at *
    refine np_op (vs := [d, .int .i32 (-1)]) (by simp [SV.val, upd, h0]) (hi w B d out (-1) _ _ ho rfl hl fun d' w' o' k' => ?_)
    show K (pack _) w'
    simpa [SV.val, upd, pack] using hk d' w' o' k'
  | false =>
    simp only [Bool.false_eq_true, if_false] at *
    refine np_op (vs := [.int .i64 (n : Int)]) (by simp [SV.val, h1]) ⟨.i64, _, rfl, ?_⟩
    rw [wrap32 n (by omega)]
    refine np_op (vs := [d, .int .i32 (n : Int)]) (by simp [SV.val, upd, h0]) (hi w B d out (n : Int) _ _ ho rfl hl fun d' w' o' k' => ?_)
    show K (pack _) w'
    simpa [SV.val, upd, pack] using hk d' w' o' k'

theorem appendCompactNullableArrayLen_ok (hn : Named P) {I : Ids} {f : FuncId} (hf : fnP P f 3 = some (p_appendCompactNullableArrayLen I)) (hu : Appends P I.e8 I.appendUvarint wrUv uvRep) : AppN P I.e8 f true := by
  intro w B d out n b K ho hlt hl hk
  refine calls_of_np hn (vs := [d, .int .i64 (n : Int), .bool b]) hf fun η hη => ?_
  have h0 : η 0 = d := hη 0 (by simp)
  have h1 : η 1 = .int .i64 (n : Int) := hη 1 (by simp)
  have h2 : η 2 = .bool b := hη 2 (by simp)
  refine np_ite b (by simp [SV.val, h2]) ?_
  cases b with
  | true =>
    simp only [if_true] at *
    refine np_op (vs := [d, .int .u32 0]) (by simp [SV.val, upd, h0]) (hu w B d out 0 _ _ ho ⟨rfl, by omega⟩ hl fun d' w' o' k' => ?_)
    show K (pack _) w'
    simpa [SV.val, upd, pack] using hk d' w' o' k'
  | false =>
    simp only [Bool.false_eq_true, if_false] at *
    refine np_op (vs := [.int .i64 (n : Int)]) (by simp [SV.val, h1]) ⟨.i64, _, rfl, ?_⟩
    rw [wrap_u32 n (by omega)]
    refine np_op (vs := [.int .u32 1, .int .u32 (n : Int)]) (by simp [SV.val, upd]) ⟨.u32, _, _, _, rfl, rfl, ?_⟩
    rw [show (1 : Int) + (n : Int) = ((n + 1 : Nat) : Int) by omega, wrap_u32 (n + 1) (by omega)]
    refine np_op (vs := [d, .int .u32 ((n + 1 : Nat) : Int)]) (by simp [SV.val, upd, h0]) (hu w B d out (n + 1) _ _ ho ⟨rfl, by omega⟩ hl fun d' w' o' k' => ?_)
    show K (pack _) w'
    simpa [SV.val, upd, pack] using hk d' w' o' k'

/-- The plain numbers' writers, as primitives'. -/
theorem app_prim {e : TypeId} {f : FuncId} {α : Type} {enc : α → Bs} {rep : (Nat → Prop) → World → α → Value → Prop} {p : Prim} (h : Appends P e f enc rep) (g : PV → Option α) (hg : ∀ ok w x v, RepP ok w p x v → okP p x → ∃ a, g x = some a ∧ rep ok w a v ∧ enc a = wrP p x) : AppPrim P e f p := by
  intro w B d out x v K ho hv hl hk
  obtain ⟨a, _, h1, h2⟩ := hg _ _ _ _ hv.1 hv.2
  rw [← h2] at hl hk
  exact h w B d out a v K ho h1 hl hk

theorem app_i8 {e : TypeId} {f : FuncId} (h : Appends P e f (wrI 1) (intRep .i8)) : AppPrim P e f .i8 :=
  app_prim h (fun | .i n => some n | _ => none) fun ok w x v hv _ => by cases x with | i n => exact ⟨n, rfl, hv, rfl⟩ | _ => exact hv.elim
theorem app_i16 {e : TypeId} {f : FuncId} (h : Appends P e f (wrI 2) (intRep .i16)) : AppPrim P e f .i16 :=
  app_prim h (fun | .i n => some n | _ => none) fun ok w x v hv _ => by cases x with | i n => exact ⟨n, rfl, hv, rfl⟩ | _ => exact hv.elim
theorem app_i32 {e : TypeId} {f : FuncId} (h : Appends P e f (wrI 4) (intRep .i32)) : AppPrim P e f .i32 :=
  app_prim h (fun | .i n => some n | _ => none) fun ok w x v hv _ => by cases x with | i n => exact ⟨n, rfl, hv, rfl⟩ | _ => exact hv.elim
theorem app_i64 {e : TypeId} {f : FuncId} (h : Appends P e f (wrI 8) (intRep .i64)) : AppPrim P e f .i64 :=
  app_prim h (fun | .i n => some n | _ => none) fun ok w x v hv _ => by cases x with | i n => exact ⟨n, rfl, hv, rfl⟩ | _ => exact hv.elim
theorem app_u16 {e : TypeId} {f : FuncId} (h : Appends P e f (be 2) (natRep .u16)) : AppPrim P e f .u16 :=
  app_prim h (fun | .i n => some n.toNat | _ => none) fun ok w x v hv hok => by
    cases x with
    | i n =>
      have hv : v = .int .u16 n := hv
      have h0 : 0 ≤ n := hok.1
      exact ⟨n.toNat, rfl, by rw [hv]; show Value.int .u16 n = Value.int .u16 (n.toNat : Int); rw [Int.toNat_of_nonneg h0], rfl⟩
    | _ => exact hv.elim
theorem app_bool {e : TypeId} {f : FuncId} (h : Appends P e f (fun b : Bool => [if b then 1 else 0]) boolRep) : AppPrim P e f .bool :=
  app_prim h (fun | .b b => some b | _ => none) fun ok w x v hv _ => by cases x with | b b => exact ⟨b, rfl, hv, rfl⟩ | _ => exact hv.elim

end
end Go.Kb
