/- What an operation hangs on: its operands alone; and the heap, if it loads or acts. -/
import Derived.Test.YtmlmiljgbaalgaaDoorCx
set_option linter.unusedSimpArgs false
set_option linter.unusedVariables false
namespace Go.CX

theorem T.get_set_ne {α : Type} : ∀ (f : Nat) (t : T α) (n : Nat) (x : Option α) (m : Nat), m ≠ n → T.get f (T.set f t n x) m = T.get f t m := by
  intro f
  induction f with
  | zero => intro t n x m h; rfl
  | succ f ih =>
    intro t n x m h
    cases t with
    | nil =>
      cases n with
      | zero =>
        cases m with
        | zero => exact (h rfl).elim
        | succ m => simp only [T.set, T.get, T.get_nil]; split <;> rfl
      | succ n =>
        cases m with
        | zero => simp only [T.set]; split <;> rfl
        | succ m =>
          simp only [T.set]
          split <;> rename_i hn <;> simp only [T.get] <;> split <;> rename_i hm
          · rw [ih _ _ _ _ (by omega), T.get_nil]
          · rw [T.get_nil]
          · rw [T.get_nil]
          · rw [ih _ _ _ _ (by omega), T.get_nil]
    | node l v r =>
      cases n with
      | zero =>
        cases m with
        | zero => exact (h rfl).elim
        | succ m => rfl
      | succ n =>
        cases m with
        | zero => simp only [T.set]; split <;> rfl
        | succ m =>
          simp only [T.set]
          split <;> rename_i hn <;> simp only [T.get] <;> split <;> rename_i hm
          · exact ih _ _ _ _ (by omega)
          · rfl
          · rfl
          · exact ih _ _ _ _ (by omega)

def T.restr {α : Type} (p : Nat → Bool) : T α → T α
  | .nil => .nil
  | .node l v r => .node (T.restr (fun m => p (2 * m + 1)) l) (if p 0 then v else none) (T.restr (fun m => p (2 * m + 2)) r)

theorem T.get_restr {α : Type} : ∀ (t : T α) (p : Nat → Bool) (f n : Nat), T.get f (T.restr p t) n = if p n then T.get f t n else none := by
  intro t
  induction t with
  | nil => intro p f n; simp [T.restr, T.get_nil]
  | node l v r ihl ihr =>
    intro p f n
    cases f with
    | zero => simp [T.get]
    | succ f =>
      cases n with
      | zero => simp [T.restr, T.get]
      | succ m =>
        simp only [T.restr, T.get]
        split
        · rename_i h; rw [ihl, show 2 * (m / 2) + 1 = m + 1 by omega]
        · rename_i h; rw [ihr, show 2 * (m / 2) + 2 = m + 1 by omega]

def T.mix {α : Type} (p : Nat → Bool) : T α → T α → T α
  | .nil, b => T.restr (fun n => !p n) b
  | .node l v r, .nil => T.restr p (.node l v r)
  | .node l v r, .node l' v' r' => .node (T.mix (fun m => p (2 * m + 1)) l l') (if p 0 then v else v') (T.mix (fun m => p (2 * m + 2)) r r')

theorem T.get_mix {α : Type} : ∀ (a b : T α) (p : Nat → Bool) (f n : Nat), T.get f (T.mix p a b) n = if p n then T.get f a n else T.get f b n := by
  intro a
  induction a with
  | nil => intro b p f n; simp only [T.mix, T.get_restr, T.get_nil]; cases p n <;> simp
  | node l v r ihl ihr =>
    intro b p f n
    cases b with
    | nil => simp only [T.mix, T.get_restr, T.get_nil]
    | node l' v' r' =>
      cases f with
      | zero => simp [T.get]
      | succ f =>
        cases n with
        | zero => simp only [T.mix, T.get]
        | succ m =>
          simp only [T.mix, T.get]
          split
          · rename_i h; rw [ihl, show 2 * (m / 2) + 1 = m + 1 by omega]
          · rename_i h; rw [ihr, show 2 * (m / 2) + 2 = m + 1 by omega]

section
variable {P : Program} {call : FuncId → List AV → Heap → Option (AV × Heap)} {fr fr' : T AV} {h : Heap} {o : Oper}

theorem evalOs_congr : ∀ {xs : List Operand}, (∀ x ∈ xs, evalO fr x = evalO fr' x) → evalOs fr xs = evalOs fr' xs := by
  intro xs
  induction xs with
  | nil => intro _; rfl
  | cons x r ih =>
    intro hh
    simp only [evalOs]
    rw [hh x (by simp), ih (fun y hy => hh y (by simp [hy]))]

theorem optKnown_congr {x : Option Operand} (hh : ∀ y, x = some y → evalO fr y = evalO fr' y) : optKnown fr x = optKnown fr' x := by
  cases x with
  | none => rfl
  | some y => simp only [optKnown, hh y rfl]

theorem opX_congr (hh : ∀ x ∈ o.op.operands.toList, evalO fr x = evalO fr' x) : opX P call fr h o = opX P call fr' h o := by
  unfold opX
  cases ho : o.op with
  | move x => rw [ho] at hh; dsimp only; rw [hh x (by simp [Op.operands])]
  | assign x => rw [ho] at hh; dsimp only; rw [hh x (by simp [Op.operands])]
  | pick c x y => rw [ho] at hh; dsimp only; rw [hh c (by simp [Op.operands]), hh x (by simp [Op.operands]), hh y (by simp [Op.operands])]
  | alloc e => rfl
  | box e x => rw [ho] at hh; dsimp only; rw [hh x (by simp [Op.operands])]
  | build t parts => rw [ho] at hh; dsimp only; rw [evalOs_congr (fr := fr) (fr' := fr') (fun x hx => hh x (by simpa [Op.operands] using hx))]
  | buildSlice t len parts => rw [ho] at hh; dsimp only; rw [evalOs_congr (fr := fr) (fr' := fr') (fun x hx => hh x (by simpa [Op.operands] using hx))]
  | load t x => rw [ho] at hh; dsimp only; rw [hh x (by simp [Op.operands])]
  | store t x y => rw [ho] at hh; dsimp only; rw [hh x (by simp [Op.operands]), hh y (by simp [Op.operands])]
  | nilCheck x => rw [ho] at hh; dsimp only; rw [hh x (by simp [Op.operands])]
  | binOp op t x y yt => rw [ho] at hh; dsimp only; rw [hh x (by simp [Op.operands]), hh y (by simp [Op.operands])]
  | unOp op t x => rw [ho] at hh; dsimp only; rw [hh x (by simp [Op.operands])]
  | convert s d x => rw [ho] at hh; dsimp only; rw [hh x (by simp [Op.operands])]
  | makeFunc f first caps => rw [ho] at hh; dsimp only; rw [evalOs_congr (fr := fr) (fr' := fr') (xs := caps.toList) (fun x hx => hh x (by simp only [Op.operands, Array.toList_append, List.mem_append]; exact .inr hx))]
  | makeSlice t l c => rw [ho] at hh; dsimp only; rw [hh l (by simp [Op.operands]), hh c (by simp [Op.operands])]
  | slice t x lo hi mx =>
    rw [ho] at hh; dsimp only
    rw [hh x (by simp [Op.operands]), optKnown_congr (fr := fr) (fr' := fr') (x := lo) (fun y hy => hh y (by subst hy; simp [Op.operands])), optKnown_congr (fr := fr) (fr' := fr') (x := hi) (fun y hy => hh y (by subst hy; simp [Op.operands])),
      optKnown_congr (fr := fr) (fr' := fr') (x := mx) (fun y hy => hh y (by subst hy; simp [Op.operands]))]
  | fieldAddr t x f => rw [ho] at hh; dsimp only; rw [hh x (by simp [Op.operands])]
  | field t x f => rw [ho] at hh; dsimp only; rw [hh x (by simp [Op.operands])]
  | indexAddr t x i => rw [ho] at hh; dsimp only; rw [hh x (by simp [Op.operands]), hh i (by simp [Op.operands])]
  | index t x i => rw [ho] at hh; dsimp only; rw [hh x (by simp [Op.operands]), hh i (by simp [Op.operands])]
  | extract x i => rw [ho] at hh; dsimp only; rw [hh x (by simp [Op.operands])]
  | call c =>
    rw [ho] at hh
    have ha : ∀ x ∈ c.args.toList, evalO fr x = evalO fr' x := fun x hx => hh x (by simp only [Op.operands, Call.operands, Array.toList_append, List.mem_append]; exact .inr hx)
    have hs := evalOs_congr ha
    dsimp only
    split
    · split
      · rename_i t r x hts hargs; rw [ha x (by rw [hargs]; simp)]
      · rfl
    · split
      · rename_i x y hargs; rw [ha x (by rw [hargs]; simp), ha y (by rw [hargs]; simp)]
      · rfl
    · split
      · rename_i x y hargs; rw [ha x (by rw [hargs]; simp), ha y (by rw [hargs]; simp)]
      · rfl
    · rw [hs]
    · rw [hs]
    · rename_i g hg
      rw [hh g (by simp [Op.operands, Call.operands, hg]), hs]
    · rfl
  | _ => rfl

/-- An operation that neither acts nor loads says the same over any heap. -/
theorem opX_float (hc : isChain o = false) (hl : isLoad o = false) : ∃ q : Option AV, ∀ h, opX P call fr h o = q.map fun a => (some a, h) := by
  unfold opX
  cases ho : o.op with
  | move x => exact ⟨evalO fr x, fun h => rfl⟩
  | assign x => exact ⟨evalO fr x, fun h => rfl⟩
  | pick c x y =>
    refine ⟨match evalO fr c with
      | some (.c (.lit (.bool t))) => if t then evalO fr x else evalO fr y
      | _ => none, fun h => ?_⟩
    dsimp only
    split <;> (split <;> simp_all)
  | build t parts =>
    cases h1 : evalOs fr (parts.toList.map (·.2)) with
    | none => exact ⟨none, fun h => by simp [h1]⟩
    | some vs =>
      cases h2 : zeroOf P t with
      | none => exact ⟨none, fun h => by simp [h1, h2]⟩
      | some z =>
        cases h3 : z.isTup with
        | true => exact ⟨none, fun h => by simp [h1, h2, h3]⟩
        | false =>
          refine ⟨match P.underlying t with
            | some (.struct fs) => (placesOf P fs.toList).bind fun pl => (fillL (pl[·]?) z.cells ((parts.toList.map (·.1)).zip vs)).map .agg
            | some (.array _ e) => (sizeOfT P e).bind fun n => (fillL (fun i => some (i * n, n)) z.cells ((parts.toList.map (·.1)).zip vs)).map .agg
            | _ => none, fun h => ?_⟩
          simp only [h1, h2, h3, Option.bind_some, Bool.false_eq_true, if_false]
          split
          · rename_i fs hu
            rw [hu]
            simp [Option.map_bind, Option.map_map, Function.comp_def]
          · rename_i m e hu
            rw [hu]
            simp [Option.map_bind, Option.map_map, Function.comp_def]
          · split <;> simp_all
  | nilCheck x =>
    refine ⟨match evalO fr x with
      | some (.c (.ptr b o)) => some (.c (.ptr b o))
      | _ => none, fun h => ?_⟩
    dsimp only
    split <;> (split <;> simp_all)
  | binOp op t x y yt =>
    refine ⟨(evalO fr x).bind fun a => (evalO fr y).bind fun b => binO P op t x y a b, fun h => ?_⟩
    simp [Option.map_bind, Function.comp_def]
  | unOp op t x =>
    refine ⟨(evalO fr x).bind fun a => a.known.bind fun u => (pureRun P (Op.unary op u)).bind ofValue, fun h => ?_⟩
    simp [Option.map_bind, Function.comp_def]
  | convert s d x =>
    refine ⟨(evalO fr x).bind fun a => a.known.bind fun v => (pureRun P (convert s d v)).bind ofValue, fun h => ?_⟩
    simp [convO, Option.map_bind, Option.map_map, Function.comp_def]
  | makeFunc f first caps =>
    refine ⟨if first.size = 0 then (evalOs fr caps.toList).bind fun vs => (capPtrs vs).map fun ps => .c (.fn f ps) else none, fun h => ?_⟩
    dsimp only
    split
    · simp [Option.map_bind, Option.map_map, Function.comp_def]
    · rfl
  | slice t x lo hi mx =>
    refine ⟨(evalO fr x).bind fun a => (optKnown fr lo).bind fun l => (optKnown fr hi).bind fun u => (optKnown fr mx).bind fun m => sliceO P a l u m t, fun h => ?_⟩
    simp [Option.map_bind, Function.comp_def]
  | fieldAddr t x f =>
    refine ⟨match evalO fr x with
      | some (.c (.ptr b o)) => (fieldOffT P t f).map fun d => .c (.ptr b (o + d))
      | _ => none, fun h => ?_⟩
    dsimp only
    split
    · rename_i hu; rw [hu]; cases fieldOffT P t f <;> rfl
    · split <;> simp_all
  | field t x f =>
    refine ⟨match evalO fr x, P.underlying t with
      | some (.agg cs), some (.struct fs) => (fs[f]?).bind fun g => partT P g.type cs g.offset
      | _, _ => none, fun h => ?_⟩
    dsimp only
    split
    · rename_i cs fs h1 h2
      rw [h1, h2]
      simp [Option.map_bind, Function.comp_def]
    · split <;> simp_all
  | indexAddr t x i =>
    refine ⟨match P.underlying t, evalO fr x, (evalO fr i).bind idxOf with
      | some (.slice e), some (.c (.sl b o n _)), some j => if j < n then (sizeOfT P e).map fun s => .c (.ptr b (o + j * s)) else none
      | some (.array n e), some (.c (.ptr b o)), some j => if j < n then (sizeOfT P e).map fun s => .c (.ptr b (o + j * s)) else none
      | _, _, _ => none, fun h => ?_⟩
    dsimp only
    split
    · rename_i e b o n c j h1 h2 h3
      rw [h1, h2, h3]
      dsimp only
      split
      · cases sizeOfT P e <;> rfl
      · rfl
    · rename_i n e b o j h1 h2 h3
      rw [h1, h2, h3]
      dsimp only
      split
      · cases sizeOfT P e <;> rfl
      · rfl
    · split <;> first | rfl | grind
  | index t x i =>
    refine ⟨(evalO fr x).bind fun a => (evalO fr i).bind fun b => a.known.bind fun u => b.known.bind fun w => (pureRun P (Instr.index t u w)).bind ofValue, fun h => ?_⟩
    simp [Option.map_bind, Function.comp_def]
  | extract x i =>
    refine ⟨match evalO fr x with
      | some (.tup l) => match l[i]? with
        | some (true, cs) => some (.agg cs)
        | some (false, [y]) => some (.c y)
        | _ => none
      | _ => none, fun h => ?_⟩
    dsimp only
    split
    · rename_i l hl'
      rw [hl']
      dsimp only
      split
      · rename_i h1; rw [h1]
      · rename_i h1; rw [h1]
      · split <;> simp_all
    · split <;> simp_all
  | call c =>
    have hc' : actCall c.callee = false := by simpa [isChain, ho] using hc
    dsimp only
    split
    · rename_i hcal
      refine ⟨match c.argTypes.toList, c.args.toList with
        | t :: _, [x] => (evalO fr x).bind fun a => lenO P t a
        | _, _ => none, fun h => ?_⟩
      split
      · rename_i t r x h1 h2
        rw [h1, h2]
        simp [Option.map_bind, Function.comp_def]
      · split <;> simp_all
    · rename_i hcal; simp [hcal, actCall] at hc'
    · rename_i hcal; simp [hcal, actCall] at hc'
    · refine ⟨(evalOs fr c.args.toList).bind fun vs => (vs.mapM AV.known).bind fun us => (pureRun P (Builtin.min_ c.argTypes 0 us.toArray)).bind ofValue, fun h => ?_⟩
      simp [Option.map_bind, Function.comp_def]
    · refine ⟨(evalOs fr c.args.toList).bind fun vs => (vs.mapM AV.known).bind fun us => (pureRun P (Builtin.max_ c.argTypes 0 us.toArray)).bind ofValue, fun h => ?_⟩
      simp [Option.map_bind, Function.comp_def]
    · rename_i g hcal; simp [hcal, actCall] at hc'
    · exact ⟨none, fun h => rfl⟩
  | alloc e => simp [isChain, ho] at hc
  | box e x => simp [isChain, ho] at hc
  | buildSlice t l p => simp [isChain, ho] at hc
  | store t x y => simp [isChain, ho] at hc
  | makeSlice t l c => simp [isChain, ho] at hc
  | load t x => simp [isLoad, ho] at hl
  | _ => exact ⟨none, fun h => rfl⟩

theorem opX_load {t : TypeId} {x : Operand} (ho : o.op = .load t x) (h : Heap) : opX P call fr h o = ((evalO fr x).bind (loadT P h t)).map fun a => (some a, h) := by
  unfold opX; rw [ho]

theorem sameV_eq {a b : Value} (h : sameV a b = true) : a = b := by
  unfold sameV at h
  split at h <;> simp_all

theorem sameC_eq {a b : CV} (h : sameC a b = true) : a = b := by
  unfold sameC at h
  split at h
  · rw [sameV_eq h]
  · simp_all
  · simp_all
  · simp only [Bool.and_eq_true, beq_iff_eq, decide_eq_true_eq] at h
    obtain ⟨⟨⟨rfl, rfl⟩, rfl⟩, rfl⟩ := h
    rfl
  · cases h

theorem sameL_eq : ∀ {a b : List CV}, sameL a b = true → a = b := by
  intro a
  induction a with
  | nil => intro b h; cases b <;> simp_all [sameL]
  | cons x r ih =>
    intro b h
    cases b with
    | nil => simp [sameL] at h
    | cons y s =>
      simp only [sameL, Bool.and_eq_true] at h
      rw [sameC_eq h.1, ih h.2]

theorem sameA_eq {a b : AV} (h : sameA a b = true) : a = b := by
  unfold sameA at h
  split at h
  · rw [sameC_eq h]
  · rw [sameL_eq h]
  · cases h

end
end Go.CX
