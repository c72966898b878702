/- Regions, code, calls: what the executor computes is what the model's call returns. -/
import Derived.Test.YtfiadcfdnpggdabCx12
namespace Go.CX

section
variable {σ : Nat → Value} {P : Program} {B : Nat} {w0 : World} {nt : Nat}
variable {call : FuncId → List AV → Heap → Option (AV × Heap)}

theorem replicate_getD (n i : Nat) : (Array.replicate n false).getD i false = false := by
  by_cases h : i < n <;> simp [h]

theorem regionX_ok (hm : P.follows .mixedOrders = true) (hcall : CallOk σ P B w0 call) {ops : Array Oper} {d : Bool} {st st' : St} {id : Nat} {V : Vn} {a : Act} {w : World} {Q : Exit → Act → World → Prop}
    (hx : regionX P call nt ops d st = some st') (hf : FRel σ V nt st.fr a) (hr : HRel σ B w0 V st.h w)
    (hq : ∀ V' a' w', Ext V V' → FRel σ V' nt st'.fr a' → HRel σ B w0 V' st'.h w' → Q .normal a' w') : (Code.region id ops d).wp P Q a w := by
  unfold regionX at hx
  split at hx
  · rename_i s l hops
    cases d with
    | false =>
      simp only [Bool.false_eq_true, if_false, Option.some.injEq] at hx
      subst hx
      exact wp_region_list (opsX_ok hcall _ _ _ _ V a w hops hf hr hq)
    | true =>
      simp only [if_true] at hx
      split at hx
      · rename_i hd
        cases hx
        obtain ⟨g1, g2, g3⟩ := opsX_steps _ _ _ _ hops
        have hlen : l.length = ops.size := by simpa using g1
        let X : Nat → St := fun j => (l ++ [st']).getD j st'
        have hX : ∀ j, j ≤ ops.size → (l ++ [st'])[j]? = some (X j) := by
          intro j hj
          have : j < (l ++ [st']).length := by simp; omega
          simp only [X, List.getD, List.getElem?_eq_getElem this, Option.getD_some]
        have hs : X ops.size = st' := by
          have := hX ops.size (Nat.le_refl _)
          rw [← hlen, List.getElem?_append_right (Nat.le_refl _)] at this
          simp at this
          rw [← hlen]; exact this.symm
        have hR : Run P call nt ops X := ⟨fun j o ho => by
          obtain ⟨s1, s2, k1, k2, k3⟩ := g3 j o (by simpa using ho)
          have hlt := (Array.getElem?_eq_some_iff.1 ho).1
          rw [hX j (by omega)] at k1
          rw [hX (j + 1) (by omega)] at k2
          cases k1; cases k2
          exact k3⟩
        have hD := drawFacts (P := P) hlen hd hX
        have h0 : X 0 = st := by
          have := hX 0 (by omega)
          rw [g2] at this
          cases this; rfl
        refine wp_region_any hm ?_
        refine draw_any hcall hR hD (V0 := V) (by rw [hs]; exact hq) ops.size _ V 0 (List.range ops.size) a _ ?_ (Ext.refl V) (fun i hi _ => by simpa using hi) (by simp)
        refine ⟨by simp, Nat.zero_le _, fun i o ho _ => ?_, fun i o ho h => ?_, ?_, hf.defers, hf.size, fun i o d x ho _ h => ?_, fun t x _ hx => ?_⟩
        · rw [replicate_getD]; simp
        · rw [replicate_getD] at h; cases h
        · rw [h0]; exact hr.drew
        · rw [replicate_getD] at h; cases h
        · rw [h0] at hx; exact hf.get t x hx
      · cases hx
  · cases hx

def Ex.out : Ex → Exit
  | .norm => .normal
  | .ret => .ret
  | .exit id => .exit id

/-- What a piece of the executor promises of a piece of code. -/
def CodeOk (σ : Nat → Value) (P : Program) (B : Nat) (w0 : World) (nt : Nat) (c : Code) (f : St → Option (Ex × St)) : Prop :=
  ∀ (st st' : St) (e : Ex) (V : Vn) (a : Act) (w : World) (Q : Exit → Act → World → Prop), f st = some (e, st') → FRel σ V nt st.fr a → HRel σ B w0 V st.h w →
    (∀ V' a' w', Ext V V' → FRel σ V' nt st'.fr a' → HRel σ B w0 V' st'.h w' → Q e.out a' w') → c.wp P Q a w

theorem loopX_ok {c : Code} {f : St → Option (Ex × St)} (hc : CodeOk σ P B w0 nt c f) : ∀ (n : Nat) (st st' : St) (e : Ex) (V : Vn) (a : Act) (w : World) (Q : Exit → Act → World → Prop), loopX f n st = some (e, st') →
    FRel σ V nt st.fr a → HRel σ B w0 V st.h w → (∀ V' a' w', Ext V V' → FRel σ V' nt st'.fr a' → HRel σ B w0 V' st'.h w' → Q e.out a' w') → Code.rounds P c Q n a w := by
  intro n
  induction n with
  | zero => intro st st' e V a w Q hx; cases hx
  | succ n ih =>
    intro st st' e V a w Q hx hf hr hq
    rw [rounds_succ]
    simp only [loopX] at hx
    split at hx
    · rename_i s hs
      exact hc st s .norm V a w _ hs hf hr fun V' a' w' he hf' hr' => ih s st' e V' a' w' Q hx hf' hr' fun V'' a'' w'' he' => hq V'' a'' w'' (he.trans he')
    · rename_i hno
      refine hc st st' e V a w _ hx hf hr fun V' a' w' he hf' hr' => ?_
      cases e with
      | norm => exact (hno st' hx).elim
      | ret => exact hq V' a' w' he hf' hr'
      | exit id => exact hq V' a' w' he hf' hr'

theorem codeX_ok (hm : P.follows .mixedOrders = true) (hcall : CallOk σ P B w0 call) (rounds : Nat) : ∀ c : Code, CodeOk σ P B w0 nt c (codeX P call nt rounds c) := by
  intro c
  induction c with
  | skip =>
    intro st st' e V a w Q hx hf hr hq
    simp only [codeX, Option.some.injEq, Prod.mk.injEq] at hx
    obtain ⟨rfl, rfl⟩ := hx
    exact wp_skip (hq V a w (Ext.refl V) hf hr)
  | label l =>
    intro st st' e V a w Q hx hf hr hq
    simp only [codeX, Option.some.injEq, Prod.mk.injEq] at hx
    obtain ⟨rfl, rfl⟩ := hx
    exact wp_label (hq V a w (Ext.refl V) hf hr)
  | ret =>
    intro st st' e V a w Q hx hf hr hq
    simp only [codeX, Option.some.injEq, Prod.mk.injEq] at hx
    obtain ⟨rfl, rfl⟩ := hx
    exact wp_ret (hq V a w (Ext.refl V) hf hr)
  | exit id =>
    intro st st' e V a w Q hx hf hr hq
    simp only [codeX, Option.some.injEq, Prod.mk.injEq] at hx
    obtain ⟨rfl, rfl⟩ := hx
    exact wp_exit (hq V a w (Ext.refl V) hf hr)
  | seq x y ihx ihy =>
    intro st st' e V a w Q hx hf hr hq
    simp only [codeX] at hx
    refine wp_seq ?_
    split at hx
    · rename_i s hs
      exact ihx st s .norm V a w _ hs hf hr fun V' a' w' he hf' hr' => ihy s st' e V' a' w' Q hx hf' hr' fun V'' a'' w'' he' => hq V'' a'' w'' (he.trans he')
    · rename_i hno
      refine ihx st st' e V a w _ hx hf hr fun V' a' w' he hf' hr' => ?_
      cases e with
      | norm => exact (hno st' hx).elim
      | ret => exact hq V' a' w' he hf' hr'
      | exit id => exact hq V' a' w' he hf' hr'
  | cond c x y ihx ihy =>
    intro st st' e V a w Q hx hf hr hq
    simp only [codeX] at hx
    split at hx
    · rename_i hc
      exact wp_cond_true (eval_lit hf hc) (ihx st st' e V a w Q hx hf hr hq)
    · rename_i hc
      exact wp_cond_false (eval_lit hf hc) (ihy st st' e V a w Q hx hf hr hq)
    · cases hx
  | block id b ih =>
    intro st st' e V a w Q hx hf hr hq
    simp only [codeX] at hx
    refine wp_block ?_
    split at hx
    · rename_i i s hs
      split at hx
      · rename_i hid
        cases hx
        subst hid
        exact ih st st' (.exit i) V a w _ hs hf hr fun V' a' w' he hf' hr' => by
          simp only [Ex.out, Exit.inBlock, if_true]
          exact hq V' a' w' he hf' hr'
      · rename_i hid
        cases hx
        exact ih st st' (.exit i) V a w _ hs hf hr fun V' a' w' he hf' hr' => by
          simp only [Ex.out, Exit.inBlock, if_neg hid]
          exact hq V' a' w' he hf' hr'
    · rename_i hno
      refine ih st st' e V a w _ hx hf hr fun V' a' w' he hf' hr' => ?_
      cases e with
      | norm => exact hq V' a' w' he hf' hr'
      | ret => exact hq V' a' w' he hf' hr'
      | exit i => exact (hno i st' hx).elim
  | loop b ih =>
    intro st st' e V a w Q hx hf hr hq
    exact wp_loop_rounds rounds (loopX_ok ih rounds st st' e V a w Q hx hf hr hq)
  | region id ops d =>
    intro st st' e V a w Q hx hf hr hq
    simp only [codeX] at hx
    split at hx
    · rename_i s hs
      cases hx
      exact regionX_ok hm hcall hs hf hr hq
    · cases hx
  | _ => intro st st' e V a w Q hx; cases hx

/-! Calls. -/
theorem argsX_get : ∀ (l : List AV) (n : Nat) (t : T AV) (m : Nat) (y : AV), (argsX l n t).get deep m = some y → (∃ i, m = n + i ∧ l[i]? = some y) ∨ t.get deep m = some y := by
  intro l
  induction l with
  | nil => intro n t m y h; exact .inr h
  | cons x r ih =>
    intro n t m y h
    rcases ih (n + 1) _ m y h with ⟨i, h1, h2⟩ | h2
    · exact .inl ⟨i + 1, by omega, by simpa using h2⟩
    · rcases T.get_set _ _ _ _ _ _ h2 with ⟨h3, h4⟩ | ⟨_, h4⟩
      · exact .inl ⟨0, by omega, by simpa using h4⟩
      · exact .inr h4

theorem avals_get {V : Vn} : ∀ {l : List AV} {vs : List Value}, avals σ V l = some vs → ∀ {i : Nat} {x : AV}, l[i]? = some x → ∃ v, vs[i]? = some v ∧ x.val σ V = some v := by
  intro l
  induction l with
  | nil => intro vs h i x hx; simp at hx
  | cons y r ih =>
    intro vs h i x hx
    simp only [avals, Option.bind_eq_some_iff, Option.map_eq_some_iff] at h
    obtain ⟨v, hp, ws, hu, rfl⟩ := h
    cases i with
    | zero => simp at hx; subst hx; exact ⟨v, by simp, hp⟩
    | succ i => simpa using ih hu (by simpa using hx)

theorem avals_length {V : Vn} : ∀ {l : List AV} {vs : List Value}, avals σ V l = some vs → vs.length = l.length := by
  intro l
  induction l with
  | nil => intro vs hv; simp [avals] at hv; subst hv; rfl
  | cons x r ih =>
    intro vs hv
    simp only [avals, Option.bind_eq_some_iff, Option.map_eq_some_iff] at hv
    obtain ⟨v, hp, us, hu, rfl⟩ := hv
    simp [ih hu]

def resG (a : Act) : ResultVar → Sem Value
  | .tmp t => pure (a.tmps.getD t undef)
  | .cell c t => do loadVar t (← asAddr (a.tmps.getD c undef))

theorem resultsX_run {V : Vn} {st : St} {a : Act} {w : World} (hf : FRel σ V nt st.fr a) (hr : HRel σ B w0 V st.h w) : ∀ {rs : List ResultVar} {xs : List AV}, resultsX P st rs = some xs →
    ∃ vs, avals σ V xs = some vs ∧ (rs.mapM (resG a)).run P w = .ok vs w := by
  intro rs
  induction rs with
  | nil => intro xs h; simp [resultsX] at h; subst h; exact ⟨[], rfl, rfl⟩
  | cons r rs ih =>
    intro xs h
    cases r with
    | tmp t =>
      simp only [resultsX, Option.bind_eq_some_iff, Option.map_eq_some_iff] at h
      obtain ⟨x, hx, ys, hys, rfl⟩ := h
      obtain ⟨vs, h1, h2⟩ := ih hys
      obtain ⟨v, hv, hxv⟩ := hf.get t x hx
      refine ⟨v :: vs, by simp [avals, hxv, h1], ?_⟩
      have : a.tmps.getD t undef = v := by simp [hv]
      simp only [List.mapM_cons, resG, Sem.run_bind, Sem.run_pure, Result.andThen_ok, h2, this]
    | cell c t =>
      simp only [resultsX, Option.bind_eq_some_iff, Option.map_eq_some_iff] at h
      obtain ⟨x, ⟨p, hp, hl⟩, ys, hys, rfl⟩ := h
      obtain ⟨vs, h1, h2⟩ := ih hys
      obtain ⟨v, hv, hxv⟩ := hf.get c p hp
      unfold loadT at hl
      split at hl
      · rename_i b off
        simp only [Option.bind_eq_some_iff] at hl
        obtain ⟨k, hk, hy⟩ := hl
        simp only [AV.val, CV.val, Option.map_eq_some_iff] at hxv
        obtain ⟨q, hq, rfl⟩ := hxv
        obtain ⟨u, hu, hrun⟩ := run_loadVar hr hk hy hq
        refine ⟨u :: vs, by simp [avals, hu, h1], ?_⟩
        have : a.tmps.getD c undef = .pointer (some ⟨q.1, off, none⟩) := by simp [hv]
        simp only [List.mapM_cons, resG, Sem.run_bind, Sem.run_pure, Result.andThen_ok, h2, this, asAddr, hrun]
      · cases hl

theorem tupOf_val {V : Vn} : ∀ {xs : List AV} {l : List (Bool × List CV)} {vs : List Value}, tupOf xs = some l → avals σ V xs = some vs → tupVal σ V l = some vs := by
  intro xs
  induction xs with
  | nil => intro l vs h1 h2; simp [tupOf] at h1; simp [avals] at h2; subst h1; subst h2; rfl
  | cons x r ih =>
    intro l vs h1 h2
    simp only [avals, Option.bind_eq_some_iff, Option.map_eq_some_iff] at h2
    obtain ⟨v, hv, us, hu, rfl⟩ := h2
    cases x with
    | c x =>
      simp only [tupOf, Option.map_eq_some_iff] at h1
      obtain ⟨m, hm, rfl⟩ := h1
      have hv : x.val σ V = some v := hv
      simp [tupVal, hv, ih hm hu]
    | agg cs =>
      simp only [tupOf, Option.map_eq_some_iff] at h1
      obtain ⟨m, hm, rfl⟩ := h1
      simp only [AV.val, Option.map_eq_some_iff] at hv
      obtain ⟨ws, hw, rfl⟩ := hv
      simp [tupVal, hw, ih hm hu]
    | tup l => simp [tupOf] at h1

theorem finish_ok {V : Vn} {st : St} {a : Act} {w : World} (hf : FRel σ V nt st.fr a) (hr : HRel σ B w0 V st.h w) {fn : Func} {x : AV} {h : Heap} (hx : finish P fn.results.toList st = some (x, h)) :
    h = st.h ∧ ∃ v, x.val σ V = some v ∧ (results fn a.tmps).run P w = .ok v w := by
  unfold finish at hx
  split at hx
  · rename_i y hy
    cases hx
    simp only [Option.bind_eq_some_iff] at hy
    obtain ⟨xs, hxs, hres⟩ := hy
    obtain ⟨vs, h1, h2⟩ := resultsX_run (P := P) hf hr hxs
    have hlen := avals_length h1
    refine ⟨rfl, ?_⟩
    have hrun : (results fn a.tmps).run P w = .ok (if h : vs.toArray.size = 1 then vs.toArray[0] else .tuple vs.toArray) w := by
      unfold results
      rw [Array.mapM_eq_mapM_toList]
      have e : (fun (r : ResultVar) => (match r with
          | .tmp t => (pure (a.tmps.getD t undef) : Sem Value)
          | .cell c t => do loadVar t (← asAddr (a.tmps.getD c undef)))) = resG a := by funext r; cases r <;> rfl
      rw [Sem.run_bind, Sem.run_map]
      erw [e, h2]
      rfl
    match xs, hres, h1, hlen with
    | [], hres, h1, hlen =>
      simp only [resOf, tupOf, Option.map_some, Option.some.injEq] at hres
      subst hres
      have : vs = [] := List.eq_nil_of_length_eq_zero (by simpa using hlen)
      subst this
      exact ⟨_, rfl, by rw [hrun]; rfl⟩
    | [y], hres, h1, hlen =>
      simp only [resOf, Option.some.injEq] at hres
      subst hres
      simp only [avals, Option.bind_eq_some_iff, Option.map_eq_some_iff] at h1
      obtain ⟨v, hv, us, hu, rfl⟩ := h1
      cases hu
      exact ⟨v, hv, by rw [hrun]; rfl⟩
    | y :: z :: r, hres, h1, hlen =>
      simp only [resOf, Option.map_eq_some_iff] at hres
      obtain ⟨l, hl, rfl⟩ := hres
      refine ⟨.tuple vs.toArray, by simp [AV.val, tupOf_val hl h1], ?_⟩
      rw [hrun, dif_neg (by simp at hlen ⊢; omega)]
  · cases hx

/-- What the answers that are given beforehand promise. -/
def OrcOk (σ : Nat → Value) (P : Program) (orc : FuncId → List AV → Option AV) : Prop :=
  ∀ f args r, orc f args = some r → (∃ fn, P.funcs[f]? = some fn ∧ fn.body.isSome) ∧
    ∀ V w vs, avals σ V args = some vs → Calls P f vs.toArray w (fun e w' => w' = w ∧ ∃ v, r.val σ V = some v ∧ e = .returned v)

theorem run_ok (hm : P.follows .mixedOrders = true) (hnames : ∀ (f : FuncId) (fn : Func), P.funcs[f]? = some fn → fn.name ≠ "runtime.NumGoroutine") {orc : FuncId → List AV → Option AV} (ho : OrcOk σ P orc) (rounds : Nat) :
    ∀ n, CallOk σ P B w0 (run P orc rounds n) := by
  intro n
  induction n with
  | zero => intro f args h res h' hx; cases hx
  | succ n ih =>
    intro f args h res h' hx
    simp only [run] at hx
    split at hx
    · rename_i r hr
      cases hx
      obtain ⟨⟨fn, h1, h2⟩, h3⟩ := ho f args res hr
      refine ⟨⟨fn, h1, hnames f fn h1, h2⟩, fun V w vs hR hv => (h3 V w vs hv).mono ?_⟩
      rintro e w' ⟨rfl, v, hv, rfl⟩
      exact ⟨V, v, Ext.refl V, hR, hv, rfl⟩
    · split at hx
      · rename_i fn hfn
        split at hx
        · rename_i c hc
          split at hx
          · rename_i hle
            refine ⟨⟨fn, hfn, hnames f fn hfn, by rw [hc]; rfl⟩, fun V w vs hR hv => ?_⟩
            have hlen := avals_length hv
            refine calls_of_wp hfn hc ?_
            have hfr : FRel σ V fn.ntmps (argsX args 0 .nil) { tmps := vs.toArray ++ Array.replicate (fn.ntmps - vs.toArray.size) undef, defers := [] } := by
              refine ⟨rfl, by simp; omega, fun t x hx => ?_⟩
              rcases argsX_get _ _ _ _ _ hx with ⟨i, h1, h2⟩ | h2
              · obtain ⟨v, h3, h4⟩ := avals_get hv h2
                refine ⟨v, ?_, h4⟩
                have hi : i < vs.length := by rcases Nat.lt_or_ge i vs.length with h | h; exact h; rw [List.getElem?_eq_none h] at h3; cases h3
                simp only [Nat.zero_add] at h1
                subst h1
                rw [Array.getElem?_append_left (by simpa using hi)]
                simpa using h3
              · rw [T.get_nil] at h2; cases h2
            split at hx
            · rename_i st hst
              refine codeX_ok hm ih rounds c _ _ _ V _ w _ hst hfr hR fun V' a' w' he hf' hr' => ?_
              obtain ⟨rfl, v, h1, h2⟩ := finish_ok hf' hr' hx
              exact ⟨hf'.defers, v, h2, V', v, he, hr', h1, rfl⟩
            · rename_i st hst
              refine codeX_ok hm ih rounds c _ _ _ V _ w _ hst hfr hR fun V' a' w' he hf' hr' => ?_
              obtain ⟨rfl, v, h1, h2⟩ := finish_ok hf' hr' hx
              exact ⟨hf'.defers, v, h2, V', v, he, hr', h1, rfl⟩
            · cases hx
          · cases hx
        · cases hx
      · cases hx

/-- Does a run end in true? -/
def isTrue : Option (AV × Heap) → Bool
  | some (.c (.lit (.bool b)), _) => b
  | _ => false

/-- THE EXECUTOR's WORD: where it answers true, the call returns true in whatever memory, and turns nothing that was there. -/
theorem calls_true (hm : P.follows .mixedOrders = true) (hnames : ∀ (f : FuncId) (fn : Func), P.funcs[f]? = some fn → fn.name ≠ "runtime.NumGoroutine") {orc : FuncId → List AV → Option AV} (ho : OrcOk σ P orc) {rounds n : Nat} {f : FuncId} {args : List AV} {vs : List Value}
    (hv : avals σ [] args = some vs) (hx : isTrue (run P orc rounds n f args { t := .nil, n := 0 }) = true) (w : World) :
    Calls P f vs.toArray w (fun e w' => e = .returned (.bool true) ∧ Go.RowKit.Below w.heap.size w w') := by
  unfold isTrue at hx
  split at hx
  · rename_i b h hrun
    subst hx
    have hR : HRel σ w.heap.size w [] { t := .nil, n := 0 } w := ⟨Nat.le_refl _, Go.RowKit.Below.refl _ _, rfl, fun b k hb => by simp [Heap.get, T.get_nil] at hb, fun b b' k k' p p' hb => by simp [Heap.get, T.get_nil] at hb⟩
    refine ((run_ok (σ := σ) (B := w.heap.size) (w0 := w) hm hnames ho rounds n _ _ _ _ _ hrun).2 [] w vs hR hv).mono ?_
    rintro e w' ⟨V', v, _, hr', hval, rfl⟩
    simp only [AV.val, CV.val, oneCell, if_true, Option.some.injEq] at hval
    subst hval
    exact ⟨rfl, hr'.below⟩
  · cases hx

end
end Go.CX
