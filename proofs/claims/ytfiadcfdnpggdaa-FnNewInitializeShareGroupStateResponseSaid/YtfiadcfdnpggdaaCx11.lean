/- A region whose order is drawn does, in every order, what it does in the text's. -/
import Derived.Test.YtfiadcfdnpggdaaCx10
namespace Go.CX

section
variable {σ : Nat → Value} {P : Program} {B : Nat} {w0 : World} {nt : Nat}
variable {call : FuncId → List AV → Heap → Option (AV × Heap)} {ops : Array Oper} {X : Nat → St}

/-- What drawOk has looked at, as facts. -/
structure DrawFacts (P : Program) (ops : Array Oper) (X : Nat → St) : Prop where
  back : ∀ (j : Nat) (o : Oper), ops[j]? = some o → ∀ d ∈ depsOf o, d < j
  uniq : ∀ (i j : Nat) (o p : Oper), ops[i]? = some o → ops[j]? = some p → i ≠ j → ∀ d, o.dst = some d → p.dst ≠ some d
  uses : ∀ (j i : Nat) (o p : Oper), ops[j]? = some o → ops[i]? = some p → ∀ d, p.dst = some d → d ∈ o.looksAt ops → i ∈ depsOf o ∨ j ∈ depsOf p
  chain : ∀ (j i : Nat) (o p : Oper), ops[j]? = some o → ops[i]? = some p → isChain o = true → isChain p = true → i < j → reaches ops 12 j i = true
  loads : ∀ (j : Nat) (o : Oper), ops[j]? = some o → ∀ t x, o.op = .load t x → guardX ops (X j).fr o = some false ∨
    ∃ p y, evalO (X j).fr x = some p ∧ loadT P (X j).h t p = some y ∧
      ∀ c, c ≤ ops.size → (∀ i q, ops[i]? = some q → isChain q = true → reaches ops 12 j i = true → i < c) → loadT P (X c).h t p = some y

theorem mem_zipIdx_get {j : Nat} {o : Oper} (h : ops[j]? = some o) : (o, j) ∈ ops.toList.zipIdx := by
  rw [List.mem_zipIdx_iff_getElem?]
  simpa using h

theorem drawFacts {sts : List St} {s : St} (hlen : sts.length = ops.size) (hd : drawOk P ops (sts ++ [s]) = true) (hX : ∀ j, j ≤ ops.size → (sts ++ [s])[j]? = some (X j)) : DrawFacts P ops X := by
  unfold drawOk at hd
  rw [List.all_eq_true] at hd
  have hp : ∀ j o, ops[j]? = some o → _ := fun j o h => hd (o, j) (mem_zipIdx_get h)
  simp only [Bool.and_eq_true, List.all_eq_true] at hp
  refine ⟨fun j o h d hdm => ?_, fun i j o p hi hj hne d ho hpd => ?_, fun j i o p hj hi d hpd hm => ?_, fun j i o p hj hi hc1 hc2 hlt => ?_, fun j o hj t x ho => ?_⟩
  · simpa using (hp j o h).1.1 d hdm
  · have := ((hp j p hj).1.2 (o, i) (mem_zipIdx_get hi)).1.1
    simp only [Bool.or_eq_true, beq_iff_eq, decide_eq_true_eq] at this
    rcases this with (h | h) | h
    · exact hne h
    · rw [ho] at h; cases h
    · exact h (by rw [ho, hpd])
  · have := ((hp j o hj).1.2 (p, i) (mem_zipIdx_get hi)).1.2
    simp only [hpd, Bool.or_eq_true, Bool.not_eq_true', List.contains_iff_mem] at this
    rcases this with (h | h) | h
    · have : (o.looksAt ops).contains d = true := List.contains_iff_mem.2 hm
      rw [this] at h; cases h
    · exact .inl h
    · exact .inr h
  · have := ((hp j o hj).1.2 (p, i) (mem_zipIdx_get hi)).2
    simp only [Bool.or_eq_true, Bool.not_eq_true', Bool.and_eq_false_iff] at this
    rcases this with ((h | h) | h) | h
    · rw [hc1] at h; cases h
    · rw [hc2] at h; cases h
    · exfalso
      have : Nat.blt i j = true := by simpa using hlt
      rw [this] at h; cases h
    · exact h
  · have := (hp j o hj).2
    have hjX : (sts ++ [s])[j]? = some (X j) := hX j (by have := (Array.getElem?_eq_some_iff.1 hj).1; omega)
    simp only [loadsSame, ho, hjX] at this
    split at this
    · rename_i hg; exact .inl hg
    · split at this
      · rename_i p hp'
        split at this
        · rename_i y hy
          refine .inr ⟨p, y, hp', hy, fun c hc hch => ?_⟩
          rw [List.all_eq_true] at this
          have hcc := this c (by simp; omega)
          simp only [Bool.or_eq_true, Bool.not_eq_true', hX c hc] at hcc
          rcases hcc with h | h
          · exfalso
            rw [← Bool.not_eq_true, List.all_eq_true] at h
            refine h (fun q hq => ?_)
            obtain ⟨q, i⟩ := q
            rw [List.mem_zipIdx_iff_getElem?] at hq
            simp only [Bool.or_eq_true, Bool.not_eq_true', Bool.and_eq_false_iff]
            cases h1 : isChain q with
            | false => exact .inl (.inl rfl)
            | true =>
              cases h2 : reaches ops 12 j i with
              | false => exact .inl (.inr rfl)
              | true => exact .inr (by simpa using hch i q (by simpa using hq) h1 h2)
          · split at h
            · rename_i y' hy'
              rw [hy', ← sameA_eq h]
            · cases h
        · cases this
      · cases this

/-- Where a region's run stands when some operations are done. -/
structure Inv (σ : Nat → Value) (P : Program) (B : Nat) (w0 : World) (nt : Nat) (ops : Array Oper) (X : Nat → St) (listed : Array Bool) (V : Vn) (c : Nat) (a : Act) (w : World) : Prop where
  size : listed.size = ops.size
  cle : c ≤ ops.size
  chain : ∀ i o, ops[i]? = some o → isChain o = true → (listed.getD i false = true ↔ i < c)
  closed : ∀ i o, ops[i]? = some o → listed.getD i false = true → ∀ d ∈ depsOf o, listed.getD d false = true
  heap : HRel σ B w0 V (X c).h w
  defers : a.defers = []
  tsize : a.tmps.size = nt
  new : ∀ i o d x, ops[i]? = some o → o.dst = some d → listed.getD i false = true → (X ops.size).fr.get deep d = some x → ∃ v, a.tmps[d]? = some v ∧ x.val σ V = some v
  old : ∀ t x, (∀ i o, ops[i]? = some o → listed.getD i false = true → o.dst ≠ some t) → (X 0).fr.get deep t = some x → ∃ v, a.tmps[t]? = some v ∧ x.val σ V = some v

theorem closed_reaches {listed : Array Bool} (hc : ∀ i o, ops[i]? = some o → listed.getD i false = true → ∀ d ∈ depsOf o, listed.getD d false = true) : ∀ (f j i : Nat) (o : Oper), ops[j]? = some o →
    (∀ d ∈ depsOf o, listed.getD d false = true) → reaches ops f j i = true → listed.getD i false = true := by
  intro f
  induction f with
  | zero => intro j i o ho hd hr; simp [reaches] at hr
  | succ f ih =>
    intro j i o ho hd hr
    simp only [reaches, ho, List.any_eq_true, Bool.or_eq_true, beq_iff_eq] at hr
    obtain ⟨d, hdm, h | h⟩ := hr
    · rw [← h]; exact hd d hdm
    · have hl := hd d hdm
      have hlt : ∃ p, ops[d]? = some p := by
        cases hp : ops[d]? with
        | some p => exact ⟨p, rfl⟩
        | none => cases f <;> simp [reaches, hp] at h
      obtain ⟨p, hp⟩ := hlt
      exact ih d i p hp (hc d p hp hl) h

/-- The frame, as it must stand. -/
def doneB (ops : Array Oper) (listed : Array Bool) (t : Nat) : Bool :=
  (List.range ops.size).any fun i => listed.getD i false && decide ((ops[i]?).bind (·.dst) = some t)

theorem doneB_true {listed : Array Bool} {t : Nat} : doneB ops listed t = true ↔ ∃ i o, ops[i]? = some o ∧ listed.getD i false = true ∧ o.dst = some t := by
  unfold doneB
  simp only [List.any_eq_true, List.mem_range, Bool.and_eq_true, decide_eq_true_eq, Option.bind_eq_some_iff]
  constructor
  · rintro ⟨i, _, h1, o, h2, h3⟩; exact ⟨i, o, h2, h1, h3⟩
  · rintro ⟨i, o, h1, h2, h3⟩; exact ⟨i, (Array.getElem?_eq_some_iff.1 h1).1, h2, o, h1, h3⟩

theorem Inv.frame {listed : Array Bool} {V : Vn} {c : Nat} {a : Act} {w : World} (hi : Inv σ P B w0 nt ops X listed V c a w) :
    FRel σ V nt (T.mix (doneB ops listed) (X ops.size).fr (X 0).fr) a := by
  refine ⟨hi.defers, hi.tsize, fun t x hx => ?_⟩
  rw [T.get_mix] at hx
  split at hx
  · rename_i h
    obtain ⟨i, o, h1, h2, h3⟩ := doneB_true.1 h
    exact hi.new i o t x h1 h3 h2 hx
  · rename_i h
    refine hi.old t x (fun i o h1 h2 h3 => ?_) hx
    exact h (doneB_true.2 ⟨i, o, h1, h2, h3⟩)

theorem ready_iff {listed : Array Bool} {i : Nat} : i ∈ Region.ready .any ops listed ↔ ∃ o, ops[i]? = some o ∧ listed.getD i true = false ∧ ∀ d ∈ depsOf o, listed.getD d false = true := by
  unfold Region.ready
  simp only [List.mem_filter, List.mem_range, Bool.and_eq_true, Bool.not_eq_true']
  constructor
  · rintro ⟨h1, h2, h3⟩
    have ho : ops[i]? = some ops[i] := by simp [h1]
    refine ⟨_, ho, h2, fun d hd => ?_⟩
    rw [ho] at h3
    simp only [Option.map_some, Option.getD_some] at h3
    simp only [depsOf, List.mem_map, List.mem_filter] at hd
    obtain ⟨e, ⟨he, hb⟩, rfl⟩ := hd
    rw [Array.all_eq_true_iff_forall_mem] at h3
    have := h3 e (by simpa using he)
    simpa [hb] using this
  · rintro ⟨o, ho, h2, h3⟩
    refine ⟨(Array.getElem?_eq_some_iff.1 ho).1, h2, ?_⟩
    rw [ho]
    simp only [Option.map_some, Option.getD_some]
    rw [Array.all_eq_true_iff_forall_mem]
    intro e he
    simp only [Bool.or_eq_true, Bool.not_eq_true']
    cases hb : Region.binds .any e with
    | false => exact .inl rfl
    | true => exact .inr (h3 e.on (by simp only [depsOf, List.mem_map, List.mem_filter]; exact ⟨e, ⟨by simpa using he, hb⟩, rfl⟩))

theorem evalO_of_get {fr fr' : T AV} {x : Operand} (h : ∀ t, x = .tmp t → fr.get deep t = fr'.get deep t) : evalO fr x = evalO fr' x := by
  cases x with
  | tmp t => exact h t rfl
  | _ => rfl

theorem getD_set {listed : Array Bool} {j i : Nat} (hj : j < listed.size) : (listed.setIfInBounds j true).getD i false = true ↔ i = j ∨ listed.getD i false = true := by
  by_cases h : i = j
  · subst h; simp [hj]
  · simp [Array.getElem?_setIfInBounds_ne (Ne.symm h), h]

/-- The frame that an operation meets is the text's, as far as it looks. -/
theorem Inv.agree (hR : Run P call nt ops X) (hD : DrawFacts P ops X) {listed : Array Bool} {V : Vn} {c : Nat} {a : Act} {w : World} (hi : Inv σ P B w0 nt ops X listed V c a w)
    {j : Nat} {o : Oper} (ho : ops[j]? = some o) (hnl : listed.getD j true = false) (hdeps : ∀ d ∈ depsOf o, listed.getD d false = true) {t : Tmp} (ht : t ∈ o.looksAt ops) :
    (T.mix (doneB ops listed) (X ops.size).fr (X 0).fr).get deep t = (X j).fr.get deep t := by
  have hj := (Array.getElem?_eq_some_iff.1 ho).1
  have hnl' : listed.getD j false = false := by
    have : j < listed.size := by rw [hi.size]; exact hj
    simpa [this] using hnl
  rw [T.get_mix]
  split
  · rename_i h
    obtain ⟨q, p, h1, h2, h3⟩ := doneB_true.1 h
    have hq : q < j := by
      rcases hD.uses j q o p ho h1 t h3 ht with h | h
      · exact hD.back j o ho q h
      · have := hi.closed q p h1 h2 j h
        rw [hnl'] at this; cases this
    have := hR.fr (t := t) (j := j) (k := ops.size - j) (by omega) (fun i o' hi1 hi2 ho' e => by
      exact hD.uniq q i p o' h1 ho' (by omega) t h3 e)
    rwa [show j + (ops.size - j) = ops.size by omega] at this
  · rename_i h
    have := hR.fr (t := t) (j := 0) (k := j) (by omega) (fun i o' hi1 hi2 ho' e => by
      refine h (doneB_true.2 ⟨i, o', ho', ?_, e⟩)
      rcases hD.uses j i o o' ho ho' t e ht with h' | h'
      · exact hdeps i h'
      · have := hD.back i o' ho' j h'; omega)
    rw [Nat.zero_add] at this
    exact this.symm

theorem looksAt_operand {o : Oper} {t : Tmp} (h : .tmp t ∈ o.op.operands.toList) : t ∈ o.looksAt ops := by
  unfold Oper.looksAt
  refine List.mem_append_left _ (List.mem_filterMap.2 ⟨_, h, rfl⟩)

theorem guardX_agree {fr fr' : T AV} {o : Oper} (h : ∀ t ∈ o.looksAt ops, fr.get deep t = fr'.get deep t) : guardX ops fr o = guardX ops fr' o := by
  unfold guardX
  cases hg : o.guard with
  | none => rfl
  | some g =>
    obtain ⟨j, want⟩ := g
    simp only []
    cases hd : (ops[j]?).bind (·.dst) with
    | none => rfl
    | some d =>
      simp only [Option.bind_some]
      rw [h d (by unfold Oper.looksAt; refine List.mem_append_right _ ?_; rw [hg]; simp [hd])]

/-- The step of the invariant. -/
theorem Inv.step (hR : Run P call nt ops X) (hD : DrawFacts P ops X) {listed : Array Bool} {V V' : Vn} {c : Nat} {a : Act} {w w' : World} (hi : Inv σ P B w0 nt ops X listed V c a w)
    {j : Nat} {o : Oper} (ho : ops[j]? = some o) (hdeps : ∀ d ∈ depsOf o, listed.getD d false = true) {x : Option AV} {h1 : Heap} (hst : X (j + 1) = ⟨putX (X j).fr o.dst x, h1⟩) (hdok : dstOk nt o.dst = true)
    (he : Ext V V') {v : Value} (hv : ∀ y, x = some y → y.val σ V' = some v) {c' : Nat} (hc' : c' ≤ ops.size) (hch : ∀ i p, ops[i]? = some p → isChain p = true → ((i = j ∨ listed.getD i false = true) ↔ i < c')) (hh : HRel σ B w0 V' (X c').h w') :
    Inv σ P B w0 nt ops X (listed.setIfInBounds j true) V' c' (a.put o.dst v) w' := by
  have hj := (Array.getElem?_eq_some_iff.1 ho).1
  have hjl : j < listed.size := by rw [hi.size]; exact hj
  refine ⟨by simp [hi.size], hc', fun i p hp hcp => by rw [getD_set hjl]; exact hch i p hp hcp, fun i p hp hl d hd => ?_, hh, ?_, ?_, fun i p d y hp hpd hl hy => ?_, fun t y hno hy => ?_⟩
  · rw [getD_set hjl] at hl ⊢
    rcases hl with rfl | hl
    · rw [ho] at hp; cases hp; exact .inr (hdeps d hd)
    · exact .inr (hi.closed i p hp hl d hd)
  · cases o.dst <;> exact hi.defers
  · cases o.dst <;> simp [Act.put, hi.tsize]
  · rw [getD_set hjl] at hl
    by_cases hij : i = j
    · subst hij
      rw [ho] at hp; cases hp
      have hlast := hR.fr (t := d) (j := i + 1) (k := ops.size - (i + 1)) (by omega) (fun i' o' h1' h2' ho' e => hD.uniq i i' o o' ho ho' (by omega) d hpd e)
      rw [show i + 1 + (ops.size - (i + 1)) = ops.size by omega] at hlast
      rw [hlast, hst, hpd] at hy
      simp only [putX] at hy
      rcases T.get_set _ _ _ _ _ _ hy with ⟨_, h2⟩ | ⟨h2, _⟩
      · refine ⟨v, ?_, hv y h2⟩
        rw [hpd] at hdok ⊢
        simp only [dstOk, Nat.blt_eq] at hdok
        simp [Act.put, hi.tsize, hdok]
      · exact (h2 rfl).elim
    · have hl := hl.resolve_left hij
      obtain ⟨u, hu, hyv⟩ := hi.new i p d y hp hpd hl hy
      refine ⟨u, ?_, AV.val_ext he hyv⟩
      cases hod : o.dst with
      | none => exact hu
      | some d' =>
        have : d' ≠ d := fun e => hD.uniq i j p o hp ho hij d hpd (by rw [hod, e])
        simpa [Act.put, Array.getElem?_setIfInBounds_ne this] using hu
  · obtain ⟨u, hu, hyv⟩ := hi.old t y (fun i p hp hl => hno i p hp ((getD_set hjl).2 (.inr hl))) hy
    refine ⟨u, ?_, AV.val_ext he hyv⟩
    cases hod : o.dst with
    | none => exact hu
    | some d' =>
      have : d' ≠ t := fun e => hno j o ho ((getD_set hjl).2 (.inl rfl)) (by rw [hod, e])
      simpa [Act.put, Array.getElem?_setIfInBounds_ne this] using hu

end
end Go.CX
