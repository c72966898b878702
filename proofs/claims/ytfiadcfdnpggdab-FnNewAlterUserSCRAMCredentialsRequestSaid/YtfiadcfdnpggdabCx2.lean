/- What the executor's words mean: values under a valuation, heaps, frames; the laws of single operations. -/
import Derived.Test.YtfiadcfdnpggdabCx1
import Derived.Laws.AppendOwn
import Derived.Laws.Rows
import Derived.Below
namespace Go.CX
open Go.RowKit (Below)

/-- Of each block of the executor's: its number in the world, its capacity in elements. -/
abbrev Vn := List (Nat × Nat)

/-! Trees. -/
theorem T.get_nil {α : Type} (f n : Nat) : T.get f (T.nil : T α) n = none := by cases f <;> rfl

theorem T.get_set {α : Type} : ∀ (f : Nat) (t : T α) (n : Nat) (x : Option α) (m : Nat) (y : α), T.get f (T.set f t n x) m = some y →
    (m = n ∧ x = some y) ∨ (m ≠ n ∧ T.get f t m = some y) := by
  intro f
  induction f with
  | zero => intro t n x m y h; simp [T.get] at h
  | succ f ih =>
    intro t n x m y h
    cases t with
    | nil =>
      cases n with
      | zero =>
        cases m with
        | zero => simp [T.set, T.get] at h; exact .inl ⟨rfl, h⟩
        | succ m => simp only [T.set, T.get, T.get_nil] at h; split at h <;> cases h
      | succ n =>
        cases m with
        | zero => simp only [T.set] at h; split at h <;> simp [T.get] at h
        | succ m =>
          simp only [T.set] at h
          split at h <;> rename_i hn
          · simp only [T.get] at h
            split at h <;> rename_i hm
            · rcases ih _ _ _ _ _ h with ⟨h1, h2⟩ | ⟨_, h2⟩
              · exact .inl ⟨by omega, h2⟩
              · rw [T.get_nil] at h2; cases h2
            · rw [T.get_nil] at h; cases h
          · simp only [T.get] at h
            split at h <;> rename_i hm
            · rw [T.get_nil] at h; cases h
            · rcases ih _ _ _ _ _ h with ⟨h1, h2⟩ | ⟨_, h2⟩
              · exact .inl ⟨by omega, h2⟩
              · rw [T.get_nil] at h2; cases h2
    | node l v r =>
      cases n with
      | zero =>
        cases m with
        | zero => simp [T.set, T.get] at h; exact .inl ⟨rfl, h⟩
        | succ m => exact .inr ⟨by omega, by simpa [T.set, T.get] using h⟩
      | succ n =>
        cases m with
        | zero =>
          refine .inr ⟨by omega, ?_⟩
          simp only [T.set] at h
          split at h <;> simpa [T.get] using h
        | succ m =>
          simp only [T.set] at h
          split at h <;> rename_i hn
          · simp only [T.get] at h ⊢
            split at h <;> rename_i hm
            · rw [if_pos hm]
              rcases ih _ _ _ _ _ h with ⟨h1, h2⟩ | ⟨h1, h2⟩
              · exact .inl ⟨by omega, h2⟩
              · exact .inr ⟨by omega, h2⟩
            · rw [if_neg hm]
              exact .inr ⟨by omega, h⟩
          · simp only [T.get] at h ⊢
            split at h <;> rename_i hm
            · rw [if_pos hm]
              exact .inr ⟨by omega, h⟩
            · rw [if_neg hm]
              rcases ih _ _ _ _ _ h with ⟨h1, h2⟩ | ⟨h1, h2⟩
              · exact .inl ⟨by omega, h2⟩
              · exact .inr ⟨by omega, h2⟩

/-! Values. -/
section
variable (σ : Nat → Value)

def ptrsVal (V : Vn) : List (Nat × Nat) → Option (List Value)
  | [] => some []
  | bo :: r => (V[bo.1]?).bind fun p => (ptrsVal V r).map (Value.pointer (some ⟨p.1, bo.2, none⟩) :: ·)

def CV.val (V : Vn) : CV → Option Value
  | .lit v => if oneCell v then some v else none
  | .sym i => if oneCell (σ i) then some (σ i) else none
  | .ptr b o => (V[b]?).map fun p => .pointer (some ⟨p.1, o, none⟩)
  | .sl b o n (some c) => if n ≤ c then (V[b]?).map fun p => .slice (some ⟨p.1, o, none⟩) n c else none
  | .sl b o n none => (V[b]?).bind fun p => if n ≤ p.2 then some (.slice (some ⟨p.1, o, none⟩) n p.2) else none
  | .fn f cs => (ptrsVal V cs).map fun vs => .func f #[] vs.toArray

def vals (V : Vn) : List CV → Option (List Value)
  | [] => some []
  | x :: r => (x.val σ V).bind fun v => (vals V r).map (v :: ·)

def tupVal (V : Vn) : List (Bool × List CV) → Option (List Value)
  | [] => some []
  | (true, cs) :: r => (vals σ V cs).bind fun vs => (tupVal V r).map (Value.agg vs.toArray :: ·)
  | (false, [x]) :: r => (x.val σ V).bind fun v => (tupVal V r).map (v :: ·)
  | _ :: _ => none

def AV.val (V : Vn) : AV → Option Value
  | .c x => x.val σ V
  | .agg l => (vals σ V l).map fun vs => .agg vs.toArray
  | .tup l => (tupVal σ V l).map fun vs => .tuple vs.toArray

def avals (V : Vn) : List AV → Option (List Value)
  | [] => some []
  | x :: r => (x.val σ V).bind fun v => (avals V r).map (v :: ·)

variable {σ}

/-- The valuation has grown. -/
def Ext (V V' : Vn) : Prop := ∃ t, V' = V ++ t
theorem Ext.refl (V : Vn) : Ext V V := ⟨[], by simp⟩
theorem Ext.trans {a b c : Vn} (h : Ext a b) (k : Ext b c) : Ext a c := by
  obtain ⟨x, rfl⟩ := h; obtain ⟨y, rfl⟩ := k; exact ⟨x ++ y, by simp⟩
theorem Ext.snoc (V : Vn) (x : Nat × Nat) : Ext V (V ++ [x]) := ⟨[x], rfl⟩
theorem Ext.get {V V' : Vn} (h : Ext V V') {b : Nat} {p : Nat × Nat} (hp : V[b]? = some p) : V'[b]? = some p := by
  obtain ⟨t, rfl⟩ := h
  rw [List.getElem?_append_left (List.getElem?_eq_some_iff.1 hp).1]; exact hp

theorem ptrsVal_ext {V V' : Vn} (h : Ext V V') : ∀ {l : List (Nat × Nat)} {vs : List Value}, ptrsVal V l = some vs → ptrsVal V' l = some vs := by
  intro l
  induction l with
  | nil => intro vs hv; exact hv
  | cons x r ih =>
    intro vs hv
    simp only [ptrsVal, Option.bind_eq_some_iff, Option.map_eq_some_iff] at hv ⊢
    obtain ⟨p, hp, us, hu, rfl⟩ := hv
    exact ⟨p, h.get hp, us, ih hu, rfl⟩

theorem CV.val_ext {V V' : Vn} (h : Ext V V') {x : CV} {v : Value} (hv : x.val σ V = some v) : x.val σ V' = some v := by
  cases x with
  | lit v => exact hv
  | sym i => exact hv
  | ptr b o =>
    simp only [CV.val, Option.map_eq_some_iff] at hv ⊢
    obtain ⟨p, hp, rfl⟩ := hv
    exact ⟨p, h.get hp, rfl⟩
  | sl b o n c =>
    cases c with
    | none =>
      simp only [CV.val, Option.bind_eq_some_iff] at hv ⊢
      obtain ⟨p, hp, hh⟩ := hv
      exact ⟨p, h.get hp, hh⟩
    | some c =>
      simp only [CV.val] at hv ⊢
      split at hv
      · rename_i hc
        rw [if_pos hc]
        simp only [Option.map_eq_some_iff] at hv ⊢
        obtain ⟨p, hp, rfl⟩ := hv
        exact ⟨p, h.get hp, rfl⟩
      · cases hv
  | fn f cs =>
    simp only [CV.val, Option.map_eq_some_iff] at hv ⊢
    obtain ⟨vs, hp, rfl⟩ := hv
    exact ⟨vs, ptrsVal_ext h hp, rfl⟩

theorem vals_ext {V V' : Vn} (h : Ext V V') : ∀ {l : List CV} {vs : List Value}, vals σ V l = some vs → vals σ V' l = some vs := by
  intro l
  induction l with
  | nil => intro vs hv; exact hv
  | cons x r ih =>
    intro vs hv
    simp only [vals, Option.bind_eq_some_iff, Option.map_eq_some_iff] at hv ⊢
    obtain ⟨v, hp, us, hu, rfl⟩ := hv
    exact ⟨v, CV.val_ext h hp, us, ih hu, rfl⟩

theorem tupVal_ext {V V' : Vn} (h : Ext V V') : ∀ {l : List (Bool × List CV)} {vs : List Value}, tupVal σ V l = some vs → tupVal σ V' l = some vs := by
  intro l
  induction l with
  | nil => intro vs hv; exact hv
  | cons x r ih =>
    intro vs hv
    obtain ⟨g, cs⟩ := x
    cases g with
    | true =>
      simp only [tupVal, Option.bind_eq_some_iff, Option.map_eq_some_iff] at hv ⊢
      obtain ⟨v, hp, us, hu, rfl⟩ := hv
      exact ⟨v, vals_ext h hp, us, ih hu, rfl⟩
    | false =>
      match cs, hv with
      | [], hv => simp [tupVal] at hv
      | [y], hv =>
        simp only [tupVal, Option.bind_eq_some_iff, Option.map_eq_some_iff] at hv ⊢
        obtain ⟨v, hp, us, hu, rfl⟩ := hv
        exact ⟨v, CV.val_ext h hp, us, ih hu, rfl⟩
      | _ :: _ :: _, hv => simp [tupVal] at hv

theorem AV.val_ext {V V' : Vn} (h : Ext V V') {x : AV} {v : Value} (hv : x.val σ V = some v) : x.val σ V' = some v := by
  cases x with
  | c x => exact CV.val_ext h hv
  | agg l =>
    simp only [AV.val, Option.map_eq_some_iff] at hv ⊢
    obtain ⟨vs, hp, rfl⟩ := hv
    exact ⟨vs, vals_ext h hp, rfl⟩
  | tup l =>
    simp only [AV.val, Option.map_eq_some_iff] at hv ⊢
    obtain ⟨vs, hp, rfl⟩ := hv
    exact ⟨vs, tupVal_ext h hp, rfl⟩

theorem avals_ext {V V' : Vn} (h : Ext V V') : ∀ {l : List AV} {vs : List Value}, avals σ V l = some vs → avals σ V' l = some vs := by
  intro l
  induction l with
  | nil => intro vs hv; exact hv
  | cons x r ih =>
    intro vs hv
    simp only [avals, Option.bind_eq_some_iff, Option.map_eq_some_iff] at hv ⊢
    obtain ⟨v, hp, us, hu, rfl⟩ := hv
    exact ⟨v, AV.val_ext h hp, us, ih hu, rfl⟩

theorem CV.val_one {V : Vn} {x : CV} {v : Value} (hv : x.val σ V = some v) : v.oneCell' = true := by
  cases x with
  | lit u => simp only [CV.val] at hv; split at hv <;> cases hv; cases v <;> simp_all [oneCell, Value.oneCell']
  | sym i => simp only [CV.val] at hv; split at hv <;> cases hv; rename_i h; revert h; generalize σ i = u; cases u <;> simp [oneCell, Value.oneCell']
  | ptr b o => simp only [CV.val, Option.map_eq_some_iff] at hv; obtain ⟨p, _, rfl⟩ := hv; rfl
  | sl b o n c =>
    cases c with
    | none => simp only [CV.val, Option.bind_eq_some_iff] at hv; obtain ⟨p, _, h⟩ := hv; split at h <;> cases h; rfl
    | some c => simp only [CV.val] at hv; split at hv; (simp only [Option.map_eq_some_iff] at hv; obtain ⟨p, _, rfl⟩ := hv; rfl); cases hv
  | fn f cs => simp only [CV.val, Option.map_eq_some_iff] at hv; obtain ⟨vs, _, rfl⟩ := hv; rfl

theorem vals_one {V : Vn} : ∀ {l : List CV} {vs : List Value}, vals σ V l = some vs → ∀ v ∈ vs, v.oneCell' = true := by
  intro l
  induction l with
  | nil => intro vs hv; simp [vals] at hv; subst hv; simp
  | cons x r ih =>
    intro vs hv
    simp only [vals, Option.bind_eq_some_iff, Option.map_eq_some_iff] at hv
    obtain ⟨v, hp, us, hu, rfl⟩ := hv
    intro u hu'
    rcases List.mem_cons.1 hu' with rfl | h
    · exact CV.val_one hp
    · exact ih hu u h

theorem vals_length {V : Vn} : ∀ {l : List CV} {vs : List Value}, vals σ V l = some vs → vs.length = l.length := by
  intro l
  induction l with
  | nil => intro vs hv; simp [vals] at hv; subst hv; rfl
  | cons x r ih =>
    intro vs hv
    simp only [vals, Option.bind_eq_some_iff, Option.map_eq_some_iff] at hv
    obtain ⟨v, hp, us, hu, rfl⟩ := hv
    simp [ih hu]

theorem vals_append {V : Vn} : ∀ {l m : List CV} {vs us : List Value}, vals σ V l = some vs → vals σ V m = some us → vals σ V (l ++ m) = some (vs ++ us) := by
  intro l
  induction l with
  | nil => intro m vs us h1 h2; simp [vals] at h1; subst h1; simpa using h2
  | cons x r ih =>
    intro m vs us h1 h2
    simp only [vals, List.cons_append, Option.bind_eq_some_iff, Option.map_eq_some_iff] at h1 ⊢
    obtain ⟨v, hp, ws, hu, rfl⟩ := h1
    exact ⟨v, hp, ws ++ us, ih hu h2, rfl⟩

theorem vals_take {V : Vn} (n : Nat) : ∀ {l : List CV} {vs : List Value}, vals σ V l = some vs → vals σ V (l.take n) = some (vs.take n) := by
  induction n with
  | zero => intro l vs h; simp [vals]
  | succ n ih =>
    intro l vs h
    cases l with
    | nil => simp [vals] at h; subst h; simp [vals]
    | cons x r =>
      simp only [vals, List.take_succ_cons, Option.bind_eq_some_iff, Option.map_eq_some_iff] at h ⊢
      obtain ⟨v, hp, ws, hu, rfl⟩ := h
      exact ⟨v, hp, ws.take n, ih hu, by simp⟩

theorem vals_drop {V : Vn} (n : Nat) : ∀ {l : List CV} {vs : List Value}, vals σ V l = some vs → vals σ V (l.drop n) = some (vs.drop n) := by
  induction n with
  | zero => intro l vs h; simpa using h
  | succ n ih =>
    intro l vs h
    cases l with
    | nil => simp [vals] at h; subst h; simp [vals]
    | cons x r =>
      simp only [vals, Option.bind_eq_some_iff, Option.map_eq_some_iff] at h
      obtain ⟨v, hp, ws, hu, rfl⟩ := h
      simpa using ih hu

theorem vals_get {V : Vn} : ∀ {l : List CV} {vs : List Value}, vals σ V l = some vs → ∀ {i : Nat} {x : CV}, l[i]? = some x → ∃ v, vs[i]? = some v ∧ x.val σ V = some v := by
  intro l
  induction l with
  | nil => intro vs h i x hx; simp at hx
  | cons y r ih =>
    intro vs h i x hx
    simp only [vals, Option.bind_eq_some_iff, Option.map_eq_some_iff] at h
    obtain ⟨v, hp, ws, hu, rfl⟩ := h
    cases i with
    | zero => simp at hx; subst hx; exact ⟨v, by simp, hp⟩
    | succ i => simpa using ih hu (by simpa using hx)

theorem vals_flat {V : Vn} {z : List CV} {vs : List Value} (h : vals σ V z = some vs) : ∀ n, vals σ V (rep n z) = some (List.replicate n vs).flatten := by
  intro n
  induction n with
  | zero => simp [rep, vals]
  | succ n ih => simp only [rep, List.replicate_succ, List.flatten_cons] at ih ⊢; exact vals_append h ih

theorem lits_val (V : Vn) : ∀ {l : List Value} {cs : List CV}, lits l = some cs → vals σ V cs = some l := by
  intro l
  induction l with
  | nil => intro cs h; simp [lits] at h; subst h; rfl
  | cons v r ih =>
    intro cs h
    simp only [lits] at h
    split at h
    · rename_i ho
      simp only [Option.map_eq_some_iff] at h
      obtain ⟨ds, hd, rfl⟩ := h
      simp [vals, CV.val, ho, ih hd]
    · cases h

theorem ofValue_val (V : Vn) {v : Value} {x : AV} (h : ofValue v = some x) : x.val σ V = some v := by
  cases v with
  | agg cs =>
    simp only [ofValue, Option.map_eq_some_iff] at h
    obtain ⟨ds, hd, rfl⟩ := h
    simp [AV.val, lits_val V hd]
  | tuple vs => simp [ofValue] at h
  | _ => simp only [ofValue, Option.some.injEq] at h; subst h; rfl

theorem ofValue_notTup {v : Value} {x : AV} (h : ofValue v = some x) : x.isTup = false := by
  cases v with
  | agg cs => simp only [ofValue, Option.map_eq_some_iff] at h; obtain ⟨ds, hd, rfl⟩ := h; rfl
  | tuple vs => simp [ofValue] at h
  | _ => simp only [ofValue, Option.some.injEq] at h; subst h; rfl

theorem unlits_val {V : Vn} : ∀ {l : List CV} {us vs : List Value}, unlits l = some us → vals σ V l = some vs → vs = us := by
  intro l
  induction l with
  | nil => intro us vs h1 h2; simp [unlits] at h1; simp [vals] at h2; rw [h2, h1]
  | cons x r ih =>
    intro us vs h1 h2
    cases x with
    | lit v =>
      simp only [unlits, Option.map_eq_some_iff] at h1
      obtain ⟨ws, hw, rfl⟩ := h1
      simp only [vals, Option.bind_eq_some_iff, Option.map_eq_some_iff] at h2
      obtain ⟨v', hv, ts, ht, rfl⟩ := h2
      simp only [CV.val] at hv
      split at hv <;> cases hv
      rw [ih hw ht]
    | _ => simp [unlits] at h1

theorem known_val {V : Vn} {x : AV} {u v : Value} (h1 : x.known = some u) (h2 : x.val σ V = some v) : v = u := by
  cases x with
  | c x =>
    cases x with
    | lit w => simp only [AV.known, Option.some.injEq] at h1; simp only [AV.val, CV.val] at h2; split at h2 <;> cases h2; exact h1
    | _ => simp [AV.known] at h1
  | agg l =>
    simp only [AV.known, AV.val, Option.map_eq_some_iff] at h1 h2
    obtain ⟨us, hu, rfl⟩ := h1
    obtain ⟨vs, hv, rfl⟩ := h2
    rw [unlits_val hu hv]
  | tup l => simp [AV.known] at h1

/-- The cells of a value that is no tuple. -/
theorem cells_val {V : Vn} {x : AV} {v : Value} (ht : x.isTup = false) (h : x.val σ V = some v) : vals σ V x.cells = some v.cells.toList := by
  cases x with
  | c x =>
    have h1 := CV.val_one h
    have h2 : x.val σ V = some v := h
    simp only [AV.cells, vals, h2, Option.bind_some, Option.map_some]
    cases v <;> simp_all [Value.oneCell', Value.cells]
  | agg l =>
    simp only [AV.val, Option.map_eq_some_iff] at h
    obtain ⟨vs, hv, rfl⟩ := h
    simp [AV.cells, Value.cells, hv]
  | tup l => simp [AV.isTup] at ht

/-! Heaps and frames. -/
def RowOk (σ : Nat → Value) (V : Vn) (k : Blk) (cap : Nat) (cur : Array Value) : Prop :=
  (∃ vs, vals σ V k.xs = some vs ∧ cur.toList.take vs.length = vs) ∧
  match k.row with
  | none => cur.size = k.xs.length
  | some s => cur.size = cap * s

structure HRel (σ : Nat → Value) (B : Nat) (w0 : World) (V : Vn) (h : Heap) (w : World) : Prop where
  base : B ≤ w0.heap.size
  below : Below B w0 w
  len : V.length = h.n
  blk : ∀ b k, h.get b = some k → ∃ p cur, V[b]? = some p ∧ B ≤ p.1 ∧ p.2 ≤ maxLen ∧ w.heap[p.1]? = some (.cells cur k.e (0, 0)) ∧ RowOk σ V k p.2 cur
  inj : ∀ b b' k k' p p', h.get b = some k → h.get b' = some k' → V[b]? = some p → V[b']? = some p' → p.1 = p'.1 → b = b'

structure FRel (σ : Nat → Value) (V : Vn) (nt : Nat) (fr : T AV) (a : Act) : Prop where
  defers : a.defers = []
  size : a.tmps.size = nt
  get : ∀ t x, fr.get deep t = some x → ∃ v, a.tmps[t]? = some v ∧ x.val σ V = some v

theorem FRel.ext {V V' : Vn} (e : Ext V V') {nt : Nat} {fr : T AV} {a : Act} (h : FRel σ V nt fr a) : FRel σ V' nt fr a :=
  ⟨h.defers, h.size, fun t x hx => let ⟨v, h1, h2⟩ := h.get t x hx; ⟨v, h1, AV.val_ext e h2⟩⟩

theorem FRel.put {V : Vn} {nt : Nat} {fr : T AV} {a : Act} (h : FRel σ V nt fr a) {d : Tmp} (hd : d < nt) (x : Option AV) (v : Value)
    (hx : ∀ y, x = some y → y.val σ V = some v) : FRel σ V nt (fr.set deep d x) (a.put (some d) v) := by
  refine ⟨h.defers, by simp [Act.put, h.size], fun t y hy => ?_⟩
  rcases T.get_set _ _ _ _ _ _ hy with ⟨rfl, h2⟩ | ⟨h1, h2⟩
  · exact ⟨v, by simp [Act.put, h.size, hd], hx y h2⟩
  · obtain ⟨u, hu, hv⟩ := h.get t y h2
    exact ⟨u, by simpa [Act.put, Array.getElem?_setIfInBounds_ne (Ne.symm h1)] using hu, hv⟩

theorem evalO_val {V : Vn} {nt : Nat} {fr : T AV} {a : Act} (h : FRel σ V nt fr a) {x : Operand} {y : AV} (hy : evalO fr x = some y) : y.val σ V = some (a.eval x) := by
  cases x with
  | tmp t =>
    obtain ⟨v, h1, h2⟩ := h.get t y hy
    rw [h2]; simp [Act.eval, h1]
  | const v => exact ofValue_val V hy
  | global g => simp [evalO] at hy
  | func f => simp only [evalO, Option.some.injEq] at hy; subst hy; rfl

theorem evalOs_val {V : Vn} {nt : Nat} {fr : T AV} {a : Act} (h : FRel σ V nt fr a) : ∀ {xs : List Operand} {ys : List AV}, evalOs fr xs = some ys → avals σ V ys = some (xs.map a.eval) := by
  intro xs
  induction xs with
  | nil => intro ys hy; simp [evalOs] at hy; subst hy; rfl
  | cons x r ih =>
    intro ys hy
    simp only [evalOs, Option.bind_eq_some_iff, Option.map_eq_some_iff] at hy
    obtain ⟨y, h1, zs, h2, rfl⟩ := hy
    simp [avals, evalO_val h h1, ih h2]

theorem pureRun_run {P : Program} {α : Type} {s : Sem α} {x : α} (h : pureRun P s = some x) (w : World) : s.run P w = .ok x w := by
  induction s with
  | pure a => simp [pureRun] at h; subst h; rfl
  | program k ih => simp only [pureRun] at h; exact ih P h
  | _ => simp [pureRun] at h

/-- A new block. -/
theorem HRel.alloc {B : Nat} {w0 : World} {V : Vn} {h : Heap} {w : World} (hr : HRel σ B w0 V h w) (e : TypeId) (xs : List CV) (vs : List Value) (hv : vals σ V xs = some vs) :
    HRel σ B w0 (V ++ [(w.heap.size, 0)]) (h.new { e := e, xs := xs, row := none }) (w.alloc (.cells vs.toArray e)) := by
  have hB : B ≤ w.heap.size := Nat.le_trans hr.base hr.below.size
  have ex : Ext V (V ++ [(w.heap.size, 0)]) := Ext.snoc _ _
  refine ⟨hr.base, hr.below.alloc hB _, by simp [hr.len, Heap.new], fun b k hb => ?_, fun b b' k k' p p' hb hb' hp hp' he => ?_⟩
  · rcases T.get_set _ _ _ _ _ _ hb with ⟨rfl, hk⟩ | ⟨hne, hk⟩
    · cases hk
      refine ⟨(w.heap.size, 0), vs.toArray, by rw [← hr.len]; simp, hB, Nat.zero_le _, heap_alloc_new w _, ⟨vs, vals_ext ex hv, by simp⟩, by simpa using vals_length hv⟩
    · obtain ⟨p, cur, h1, h2, h3, h4, ⟨us, h5, h6⟩, h7⟩ := hr.blk b k hk
      refine ⟨p, cur, ex.get h1, h2, h3, ?_, ⟨us, vals_ext ex h5, h6⟩, h7⟩
      rw [heap_alloc_old w _ _ (Array.getElem?_eq_some_iff.1 h4).1]; exact h4
  · have key : ∀ b k p, (h.new { e := e, xs := xs, row := none }).get b = some k → (V ++ [(w.heap.size, 0)])[b]? = some p → (b = h.n ∧ p.1 = w.heap.size) ∨ (h.get b = some k ∧ V[b]? = some p ∧ p.1 < w.heap.size) := by
      intro b k p hb hp
      rcases T.get_set _ _ _ _ _ _ hb with ⟨rfl, hk⟩ | ⟨hne, hk⟩
      · refine .inl ⟨rfl, ?_⟩
        rw [← hr.len] at hp
        simp at hp
        rw [← hp]
      · obtain ⟨q, cur, h1, h2, h3, h4, _⟩ := hr.blk b k hk
        have := ex.get h1
        rw [hp] at this
        cases this
        exact .inr ⟨hk, h1, (Array.getElem?_eq_some_iff.1 h4).1⟩
    rcases key b k p hb hp with ⟨rfl, h1⟩ | ⟨h1, h2, h3⟩ <;> rcases key b' k' p' hb' hp' with ⟨rfl, h1'⟩ | ⟨h1', h2', h3'⟩
    · rfl
    · omega
    · omega
    · exact hr.inj b b' k k' p p' h1 h1' h2 h2' he

/-- A row of which a part is written anew. -/
theorem HRel.setRow {B : Nat} {w0 : World} {V : Vn} {h : Heap} {w : World} (hr : HRel σ B w0 V h w) {b : Nat} {k : Blk} (hb : h.get b = some k) {p : Nat × Nat} (hp : V[b]? = some p)
    (ys : List CV) (us : List Value) (cur' : Array Value) (hy : vals σ V ys = some us) (ht : cur'.toList.take us.length = us)
    (hs : match k.row with | none => cur'.size = ys.length | some s => cur'.size = p.2 * s) :
    HRel σ B w0 V (h.put b (some { k with xs := ys })) (w.setRow p.1 cur') := by
  obtain ⟨q, cur, h1, h2, h3, h4, h5⟩ := hr.blk b k hb
  rw [hp] at h1; cases h1
  have hB : Below B w (w.setRow p.1 cur') := ⟨rfl, rfl, rfl, by simp [World.setRow], fun i hi => setRow_other w p.1 i cur' (by omega)⟩
  refine ⟨hr.base, hr.below.trans hB, hr.len, fun b' k' hb' => ?_, fun b1 b2 k1 k2 p1 p2 hb1 hb2 hp1 hp2 he => ?_⟩
  · rcases T.get_set _ _ _ _ _ _ hb' with ⟨rfl, hk⟩ | ⟨hne, hk⟩
    · cases hk
      exact ⟨p, cur', hp, h2, h3, setRow_heap w p.1 cur cur' _ _ h4, ⟨us, hy, ht⟩, hs⟩
    · obtain ⟨q, cur2, g1, g2, g3, g4, g5⟩ := hr.blk b' k' hk
      refine ⟨q, cur2, g1, g2, g3, ?_, g5⟩
      rw [setRow_other w p.1 q.1 cur' (fun e => hne (hr.inj b' b k' k q p hk hb g1 hp e))]
      exact g4
  · have old : ∀ b k', (h.put b (some { k with xs := ys })).get b = some k' → True := fun _ _ _ => trivial
    have key : ∀ b1 k1, (h.put b (some { k with xs := ys })).get b1 = some k1 → ∃ k2, h.get b1 = some k2 := by
      intro b1 k1 h1
      rcases T.get_set _ _ _ _ _ _ h1 with ⟨rfl, hk⟩ | ⟨hne, hk⟩
      · exact ⟨k, hb⟩
      · exact ⟨k1, hk⟩
    obtain ⟨m1, hm1⟩ := key b1 k1 hb1
    obtain ⟨m2, hm2⟩ := key b2 k2 hb2
    exact hr.inj b1 b2 m1 m2 p1 p2 hm1 hm2 hp1 hp2 he

/-- A draw. -/
theorem HRel.drew {B : Nat} {w0 : World} {V : Vn} {h : Heap} {w : World} (hr : HRel σ B w0 V h w) : HRel σ B w0 V h { w with drawn := w.drawn + 1 } :=
  ⟨hr.base, hr.below.drew, hr.len, hr.blk, hr.inj⟩

/-- A block that is not spoken of again. -/
theorem HRel.kill {B : Nat} {w0 : World} {V : Vn} {h : Heap} {w : World} (hr : HRel σ B w0 V h w) (b : Nat) : HRel σ B w0 V (h.put b none) w := by
  have key : ∀ b1 k1, (h.put b none).get b1 = some k1 → h.get b1 = some k1 := by
    intro b1 k1 h1
    rcases T.get_set _ _ _ _ _ _ h1 with ⟨_, hk⟩ | ⟨_, hk⟩
    · cases hk
    · exact hk
  exact ⟨hr.base, hr.below, hr.len, fun b1 k1 h1 => hr.blk b1 k1 (key b1 k1 h1), fun b1 b2 k1 k2 p1 p2 h1 h2 => hr.inj b1 b2 k1 k2 p1 p2 (key _ _ h1) (key _ _ h2)⟩

end
end Go.CX
