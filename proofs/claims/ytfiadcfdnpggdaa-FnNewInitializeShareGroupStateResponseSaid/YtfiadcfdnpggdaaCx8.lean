/- Every operation of the executor, lists of them, regions without a draw, code. -/
import Derived.Test.YtfiadcfdnpggdaaCx7
namespace Go.CX
open Go.RowKit (Below)

section
variable {σ : Nat → Value} {P : Program} {B : Nat} {w0 : World} {V : Vn} {nt : Nat} {h h' : Heap} {w : World} {fr : T AV} {a : Act} {o : Oper} {t : TypeId} {x y : Operand} {ts : Array TypeId}

theorem op_copyO (ho : o.op = .call { callee := .builtin .copy, args := #[x, y], argTypes := ts }) (hr : HRel σ B w0 V h w) (hf : FRel σ V nt fr a) {s z r : AV}
    (hx : evalO fr x = some s) (hy : evalO fr y = some z) (hc : copyO P h ts.toList s z = some (r, h')) : OpOk σ P B w0 V h' a w o (some r) := by
  have hexec : ∀ (v : Value) (w' : World), (Builtin.copy_ ts o.type #[a.eval x, a.eval y]).run P w = .ok v w' → (execOp a.eval o).run P w = .ok (.value v) w' := by
    intro v w' hrun
    simp only [execOp, ho, resolve, invoke, builtin, Sem.run_bind, Sem.run_pure, Result.andThen_ok, List.map_toArray, List.map_cons, List.map_nil, hrun]
  unfold copyO at hc
  split at hc
  · rename_i t xt b off n cap htl
    have hts : ts = #[t, xt] := by apply Array.ext'; simpa using htl
    subst hts
    obtain ⟨p, c, hp, he, hnc, _, _⟩ := eval_sl hf hx
    split at hc
    · rename_i e hte
      split at hc
      · rename_i b' off' m cap' hsz
        obtain ⟨p', c', hp', he', hnc', _, _⟩ := eval_sl hf hy
        simp only [Option.bind_eq_some_iff] at hc
        obtain ⟨k', hb', hc⟩ := hc
        split at hc
        · rename_i hle
          simp only [Option.bind_eq_some_iff, Option.map_eq_some_iff] at hc
          obtain ⟨k, hb, ys, hys, hrr⟩ := hc
          cases hrr
          obtain ⟨vs', hv', hl', hc'⟩ := hr.rowCells hb' hp' hle
          obtain ⟨q, cur, h1, h2, h3, h4, ⟨vs, h5, h6⟩, h7⟩ := hr.blk b k hb
          rw [hp] at h1; cases h1
          have hu := vals_take (min m n) hv'
          obtain ⟨hle2, hlen, hyv⟩ := splice_val hys h5 hu
          have hul : (vs'.take (min m n)).length = min m n := by simp; omega
          have hvl := vals_length h5
          have hcur : vs.length ≤ cur.size := by have := congrArg List.length h6; simp at this; omega
          have hrun := run_copy_row P w t xt o.type e p.1 off n c ⟨p'.1, off', none⟩ m c' cur k.e (vs'.take (min m n)) hte hsz h4 hul
            (fun j v hj => hc' j v (by rw [List.getElem?_take] at hj; split at hj; exact hj; cases hj)) (by omega) (vals_one hu)
          intro K Q hk
          refine wp_val (hexec _ _ (by rw [he, he']; exact hrun)) (hk V _ _ (Ext.refl V) (hr.setRow hb hp ys _ _ hyv ?_ ?_) ?_)
          · have := splice_take cur.toList (vs'.take (min m n)) off vs.length hle2 (by simpa using hcur)
            rw [h6] at this
            rw [List.toList_toArray, show (vs.take off ++ vs'.take (min m n) ++ vs.drop (off + (vs'.take (min m n)).length)).length = vs.length from by simp at hle2 ⊢; omega]
            exact this
          · revert h7
            cases k.row with
            | none => intro h7; simp at hle2 ⊢; omega
            | some s => intro h7; simp at hle2 h7 ⊢; omega
          · intro y hy
            cases hy
            have : ((min m n : Nat) : Int) = min (m : Int) (n : Int) := by omega
            simp [AV.val, CV.val, oneCell, goInt, hul, this]
        · cases hc
      · rename_i s' hsz
        cases hc
        have he' := eval_lit hf hy
        refine OpOk.val hr (v := goInt 0) rfl (hexec _ _ ?_)
        rw [he, he']
        exact run_copy_nil P w t xt o.type e _ n c hte (by unfold sizeOfT at hsz; rw [hsz]; rfl)
      · cases hc
    · cases hc
  · cases hc

/-- What a way of calling promises. -/
def CallOk (σ : Nat → Value) (P : Program) (B : Nat) (w0 : World) (call : FuncId → List AV → Heap → Option (AV × Heap)) : Prop :=
  ∀ f args h res h', call f args h = some (res, h') →
    (∃ fn, P.funcs[f]? = some fn ∧ fn.name ≠ "runtime.NumGoroutine" ∧ fn.body.isSome) ∧
    ∀ V w vs, HRel σ B w0 V h w → avals σ V args = some vs →
      Calls P f vs.toArray w (fun e w' => ∃ V' v, Ext V V' ∧ HRel σ B w0 V' h' w' ∧ res.val σ V' = some v ∧ e = .returned v)

theorem ptrs_avals {V : Vn} : ∀ {ps : List (Nat × Nat)} {vs : List Value}, ptrsVal V ps = some vs → avals σ V (ps.map fun (b, o) => AV.c (.ptr b o)) = some vs := by
  intro ps
  induction ps with
  | nil => intro vs h; simp [ptrsVal] at h; subst h; rfl
  | cons p r ih =>
    intro vs h
    simp only [ptrsVal, Option.bind_eq_some_iff, Option.map_eq_some_iff] at h
    obtain ⟨q, hq, us, hu, rfl⟩ := h
    simp [avals, AV.val, CV.val, hq, ih hu]

theorem avals_append {V : Vn} : ∀ {l m : List AV} {vs us : List Value}, avals σ V l = some vs → avals σ V m = some us → avals σ V (l ++ m) = some (vs ++ us) := by
  intro l
  induction l with
  | nil => intro m vs us h1 h2; simp [avals] at h1; subst h1; simpa using h2
  | cons x r ih =>
    intro m vs us h1 h2
    simp only [avals, List.cons_append, Option.bind_eq_some_iff, Option.map_eq_some_iff] at h1 ⊢
    obtain ⟨v, hp, ws, hu, rfl⟩ := h1
    exact ⟨v, hp, ws ++ us, ih hu h2, rfl⟩

theorem op_call {call : FuncId → List AV → Heap → Option (AV × Heap)} (hcall : CallOk σ P B w0 call) {c : Call} {g : Operand} (ho : o.op = .call c) (hg : c.callee = .value g)
    (hr : HRel σ B w0 V h w) (hf : FRel σ V nt fr a) {f : FuncId} {ps : List (Nat × Nat)} {vs : List AV} {r : AV} (he : evalO fr g = some (.c (.fn (.func f) ps))) (hv : evalOs fr c.args.toList = some vs)
    (hc : call f (vs ++ ps.map fun (b, o) => .c (.ptr b o)) h = some (r, h')) : OpOk σ P B w0 V h' a w o (some r) := by
  obtain ⟨⟨fn, hfn, hname, hbody⟩, hcalls⟩ := hcall _ _ _ _ _ hc
  have hgv := evalO_val hf he
  simp only [AV.val, CV.val, Option.map_eq_some_iff] at hgv
  obtain ⟨caps, hcaps, hge⟩ := hgv
  have hargs := avals_append (evalOs_val hf hv) (ptrs_avals (σ := σ) hcaps)
  have hexec : (execOp a.eval o).run P w = .ok (.enter f (c.args.toList.map a.eval ++ caps).toArray) w := by
    have hn : (fn.name == "runtime.NumGoroutine") = false := by simpa using hname
    have hb : fn.body.isNone = false := by cases hq : fn.body <;> simp_all
    simp only [execOp, ho, resolve, hg, ← hge, Deferred.ofValue, pure_bind, invoke, callFunc, Sem.run_bind, run_program, Result.andThen_ok, hfn, hn, hb]
    simp
  intro K Q hk
  unfold Oper.wp
  rw [hexec]
  refine (hcalls V w _ hr hargs).mono ?_
  rintro e w' ⟨V', v, h1, h2, h3, rfl⟩
  exact hk V' v w' h1 h2 (fun y hy => by cases hy; exact h3)

theorem mapKnown : ∀ {vs : List AV} {us ws : List Value}, vs.mapM AV.known = some us → avals σ V vs = some ws → ws = us := by
  intro vs
  induction vs with
  | nil => intro us ws h1 h2; simp at h1; simp [avals] at h2; rw [h2, h1]
  | cons x r ih =>
    intro us ws h1 h2
    simp only [List.mapM_cons, Option.pure_def, Option.bind_eq_bind, Option.bind_eq_some_iff, Option.some.injEq] at h1
    obtain ⟨u, hu, us', hus, rfl⟩ := h1
    simp only [avals, Option.bind_eq_some_iff, Option.map_eq_some_iff] at h2
    obtain ⟨v, hv, vs', hvs, rfl⟩ := h2
    rw [ih hus hvs, known_val hu hv]

theorem op_ok {call : FuncId → List AV → Heap → Option (AV × Heap)} (hcall : CallOk σ P B w0 call) (hr : HRel σ B w0 V h w) (hf : FRel σ V nt fr a) {r : Option AV}
    (hx : opX P call fr h o = some (r, h')) : OpOk σ P B w0 V h' a w o r := by
  unfold opX at hx
  cases ho : o.op with
  | move x =>
    simp only [ho, Option.map_eq_some_iff] at hx
    obtain ⟨y, hy, he⟩ := hx; cases he
    exact OpOk.val hr (evalO_val hf hy) (by simp only [execOp, ho]; rfl)
  | assign x =>
    simp only [ho, Option.map_eq_some_iff] at hx
    obtain ⟨y, hy, he⟩ := hx; cases he
    exact OpOk.val hr (evalO_val hf hy) (by simp only [execOp, ho]; rfl)
  | pick c x y =>
    simp only [ho] at hx
    split at hx
    · rename_i g hg
      simp only [Option.map_eq_some_iff] at hx
      obtain ⟨z, hz, he⟩ := hx; cases he
      have hc := eval_lit hf hg
      cases g with
      | true =>
        simp only [if_true] at hz
        exact OpOk.val hr (evalO_val hf hz) (by simp [execOp, ho, hc, asBool])
      | false =>
        simp only [Bool.false_eq_true, if_false] at hz
        exact OpOk.val hr (evalO_val hf hz) (by simp [execOp, ho, hc, asBool])
    · cases hx
  | alloc e =>
    simp only [ho, Option.bind_eq_some_iff] at hx
    obtain ⟨z, hz, hx⟩ := hx
    split at hx
    · cases hx
    · rename_i hnt; cases hx; exact op_alloc ho hr hz (by simpa using hnt)
  | box e x =>
    simp only [ho, Option.bind_eq_some_iff] at hx
    obtain ⟨z, hz, hx⟩ := hx
    split at hx
    · cases hx
    · rename_i hnt; cases hx; exact op_box ho hr hf hz (by simpa using hnt)
  | build t parts =>
    simp only [ho, Option.bind_eq_some_iff] at hx
    obtain ⟨vs, hv, z, hz, hx⟩ := hx
    split at hx
    · cases hx
    · rename_i hnt
      have hnt : z.isTup = false := by simpa using hnt
      split at hx
      · rename_i fs hu
        simp only [Option.bind_eq_some_iff, Option.map_eq_some_iff] at hx
        obtain ⟨pl, hpl, cs, hcs, he⟩ := hx; cases he
        exact op_build_struct ho hr hf hv hz hnt hu hpl hcs
      · rename_i m e hu
        simp only [Option.bind_eq_some_iff, Option.map_eq_some_iff] at hx
        obtain ⟨n, hn, cs, hcs, he⟩ := hx; cases he
        exact op_build_array ho hr hf hv hz hnt hu hn hcs
      · cases hx
  | buildSlice t len parts =>
    simp only [ho, Option.bind_eq_some_iff] at hx
    obtain ⟨vs, hv, hx⟩ := hx
    split at hx
    · rename_i e hu
      simp only [Option.bind_eq_some_iff] at hx
      obtain ⟨i, hi, z, ⟨zv, hz, hof⟩, hx⟩ := hx
      split at hx
      · rename_i hc
        simp only [Option.map_eq_some_iff] at hx
        obtain ⟨cs, hcs, he⟩ := hx; cases he
        exact op_buildSlice ho hr hf hv hu hi hz hof (by simpa using hc.2.1) hc.1 hc.2.2 hcs
      · cases hx
    · cases hx
  | load t x =>
    simp only [ho, Option.map_eq_some_iff, Option.bind_eq_some_iff] at hx
    obtain ⟨y, ⟨p, hp, hl⟩, he⟩ := hx; cases he
    exact op_load ho hr hf hp hl
  | store t x y =>
    simp only [ho, Option.map_eq_some_iff, Option.bind_eq_some_iff] at hx
    obtain ⟨p, hp, z, hz, h1, hs, he⟩ := hx; cases he
    exact op_store ho hr hf hp hz hs
  | nilCheck x =>
    simp only [ho] at hx
    split at hx
    · rename_i b off hp
      simp only [Option.map_some, Option.some.injEq, Prod.mk.injEq] at hx
      obtain ⟨rfl, rfl⟩ := hx
      obtain ⟨q, hq, he⟩ := eval_ptr hf hp
      refine OpOk.val hr (v := .pointer (some ⟨q.1, off, none⟩)) (by simp [AV.val, CV.val, hq]) ?_
      simp only [execOp, ho, he]; rfl
    · cases hx
  | binOp op t x y yt =>
    simp only [ho, Option.map_eq_some_iff, Option.bind_eq_some_iff] at hx
    obtain ⟨s, hs, z, hz, q, hq, he⟩ := hx; cases he
    exact op_binO ho hr hf hs hz hq
  | unOp op t x =>
    simp only [ho, Option.map_eq_some_iff, Option.bind_eq_some_iff] at hx
    obtain ⟨s, hs, u, hu, q, ⟨v, hv, hof⟩, he⟩ := hx; cases he
    refine OpOk.val hr (ofValue_val V hof) ?_
    simp only [execOp, ho, eval_known hf hs hu, Sem.run_bind, pureRun_run hv w, Result.andThen_ok, Sem.run_pure]
  | convert s d x =>
    simp only [ho, convO, Option.map_eq_some_iff, Option.bind_eq_some_iff] at hx
    obtain ⟨s', hs, q, ⟨v, hv, u, hu, q', hof, he'⟩, he⟩ := hx; cases he; cases he'
    refine OpOk.val hr (ofValue_val V hof) ?_
    simp only [execOp, ho, eval_known hf hs hv, Sem.run_bind, pureRun_run hu w, Result.andThen_ok, Sem.run_pure]
  | makeFunc f first caps =>
    simp only [ho] at hx
    split at hx
    · rename_i h0
      simp only [Option.map_eq_some_iff, Option.bind_eq_some_iff] at hx
      obtain ⟨vs, hv, ps, hps, he⟩ := hx; cases he
      have hfirst : first = #[] := by apply Array.ext'; simpa using h0
      have hcp : ∀ {vs : List AV} {ps : List (Nat × Nat)} {us : List Value}, capPtrs vs = some ps → avals σ V vs = some us → ptrsVal V ps = some us := by
        intro vs
        induction vs with
        | nil => intro ps us h1 h2; simp [capPtrs] at h1; simp [avals] at h2; subst h1; subst h2; rfl
        | cons x r ih =>
          intro ps us h1 h2
          match x, h1 with
          | .c (.ptr b o), h1 =>
            simp only [capPtrs, Option.map_eq_some_iff] at h1
            obtain ⟨qs, hq, rfl⟩ := h1
            simp only [avals, AV.val, CV.val, Option.bind_eq_some_iff, Option.map_eq_some_iff] at h2
            obtain ⟨v, ⟨p, hp, rfl⟩, ws, hw, rfl⟩ := h2
            simp only [ptrsVal, hp, Option.bind_some, ih hq hw, Option.map_some]
          | .c (.lit _), h1 | .c (.sym _), h1 | .c (.sl ..), h1 | .c (.fn ..), h1 | .agg _, h1 | .tup _, h1 => simp [capPtrs] at h1
      have hpv := hcp hps (evalOs_val hf hv)
      refine OpOk.val hr (v := .func f #[] (caps.toList.map a.eval).toArray) (by simp [AV.val, CV.val, hpv]) ?_
      have e2 : Array.map a.eval caps = (List.map a.eval caps.toList).toArray := by apply Array.ext'; simp
      simp [execOp, ho, hfirst, Instr.makeFunc, e2]
    · cases hx
  | makeSlice t l c =>
    simp only [ho, Option.map_eq_some_iff, Option.bind_eq_some_iff] at hx
    obtain ⟨s, hs, z, hz, q, hq, he⟩ := hx; cases he
    exact op_makeO ho hr hf hs hz hq
  | slice t x lo hi mx =>
    simp only [ho, Option.map_eq_some_iff, Option.bind_eq_some_iff] at hx
    obtain ⟨s, hs, l, hl, u, hu, m, hm, q, hq, he⟩ := hx; cases he
    exact op_sliceO ho hr hf hs hl hu hm hq
  | fieldAddr t x f =>
    simp only [ho] at hx
    split at hx
    · rename_i b off hp
      simp only [Option.map_some, Option.bind_eq_some_iff, Option.some.injEq, Prod.mk.injEq] at hx
      obtain ⟨d, hd, rfl, rfl⟩ := hx
      obtain ⟨q, hq, he⟩ := eval_ptr hf hp
      unfold fieldOffT at hd
      split at hd
      · rename_i fs hu
        simp only [Option.bind_eq_some_iff] at hd
        obtain ⟨fd, hfd, n, hn, hd⟩ := hd
        split at hd
        · cases hd
        · rename_i hn0
          cases hd
          refine OpOk.val hr (v := .pointer (some ⟨q.1, off + fd.offset, none⟩)) (by simp [AV.val, CV.val, hq]) ?_
          simp only [execOp, ho, he, Instr.fieldAt, Sem.run_bind, run_underlying hu, Result.andThen_ok, hfd, Instr.sureAddr, Sem.run_pure, fieldPlace, run_sizeOf' hn, hn0, if_false, add_lit']
      · cases hd
    · cases hx
  | field t x f =>
    simp only [ho] at hx
    split at hx
    · rename_i cs fs hp hu
      simp only [Option.map_eq_some_iff, Option.bind_eq_some_iff] at hx
      obtain ⟨g, hg, z, hz, he⟩ := hx; cases he
      have hv := evalO_val hf hp
      simp only [AV.val, Option.map_eq_some_iff] at hv
      obtain ⟨vs, hvs, he⟩ := hv
      obtain ⟨v, h1, h2⟩ := run_part (P := P) (w := w) hz hvs
      refine OpOk.val hr h1 ?_
      simp only [execOp, ho, Instr.field, Sem.run_bind, run_underlying hu, Result.andThen_ok, hg, ← he, asAgg, Sem.run_pure, h2]
    · cases hx
  | indexAddr t x i =>
    simp only [ho] at hx
    split at hx
    · rename_i e b off n cap j hu hp hj
      split at hx
      · rename_i hlt
        simp only [Option.map_some, Option.bind_eq_some_iff, Option.some.injEq, Prod.mk.injEq] at hx hj
        obtain ⟨s, hs, rfl, rfl⟩ := hx
        obtain ⟨iv, hi, hj⟩ := hj
        obtain ⟨p, c, hpv, he, hnc, _, _⟩ := eval_sl hf hp
        unfold idxOf at hj
        split at hj
        · rename_i kk m
          split at hj
          · rename_i hm
            cases hj
            have hie := eval_lit hf hi
            refine OpOk.val hr (v := .pointer (some ⟨p.1, off + m.toNat * s, none⟩)) (by simp [AV.val, CV.val, hpv]) ?_
            have hb : 0 ≤ m ∧ m < (n : Int) := by omega
            simp [execOp, ho, he, hie, Instr.indexAt, asIntOf, run_underlying hu, hb, run_sizeOf' hs, add_lit']
          · cases hj
        · cases hj
      · cases hx
    · rename_i n e b off j hu hp hj
      split at hx
      · rename_i hlt
        simp only [Option.map_some, Option.bind_eq_some_iff, Option.some.injEq, Prod.mk.injEq] at hx hj
        obtain ⟨s, hs, rfl, rfl⟩ := hx
        obtain ⟨iv, hi, hj⟩ := hj
        obtain ⟨p, hpv, he⟩ := eval_ptr hf hp
        unfold idxOf at hj
        split at hj
        · rename_i kk m
          split at hj
          · rename_i hm
            cases hj
            have hie := eval_lit hf hi
            refine OpOk.val hr (v := .pointer (some ⟨p.1, off + m.toNat * s, none⟩)) (by simp [AV.val, CV.val, hpv]) ?_
            have hb : 0 ≤ m ∧ m < (n : Int) := by omega
            simp [execOp, ho, he, hie, Instr.indexAt, asIntOf, run_underlying hu, hb, run_sizeOf' hs, add_lit', Instr.sureAddr]
          · cases hj
        · cases hj
      · cases hx
    · cases hx
  | index t x i =>
    simp only [ho, Option.map_eq_some_iff, Option.bind_eq_some_iff] at hx
    obtain ⟨s, hs, z, hz, u, hu, v, hv, q, ⟨r, hr', hof⟩, he⟩ := hx; cases he
    refine OpOk.val hr (ofValue_val V hof) ?_
    simp only [execOp, ho, eval_known hf hs hu, eval_known hf hz hv, Sem.run_bind, pureRun_run hr' w, Result.andThen_ok, Sem.run_pure]
  | extract x i =>
    simp only [ho] at hx
    split at hx
    · rename_i l hl
      have hv := evalO_val hf hl
      simp only [AV.val, Option.map_eq_some_iff] at hv
      obtain ⟨vs, hvs, he⟩ := hv
      have tg : ∀ {l : List (Bool × List CV)} {vs : List Value}, tupVal σ V l = some vs → ∀ (i : Nat),
          (∀ cs, l[i]? = some (true, cs) → ∃ us, vals σ V cs = some us ∧ vs[i]? = some (.agg us.toArray)) ∧ (∀ y, l[i]? = some (false, [y]) → ∃ u, y.val σ V = some u ∧ vs[i]? = some u) := by
        intro l
        induction l with
        | nil => intro vs _ i; simp
        | cons z r ih =>
          intro vs hvs i
          obtain ⟨g, cs⟩ := z
          cases g with
          | true =>
            simp only [tupVal, Option.bind_eq_some_iff, Option.map_eq_some_iff] at hvs
            obtain ⟨us, hus, ws, hws, rfl⟩ := hvs
            cases i with
            | zero => exact ⟨fun cs h => by simp at h; subst h; exact ⟨us, hus, by simp⟩, fun y h => by simp at h⟩
            | succ i => simpa using ih hws i
          | false =>
            match cs, hvs with
            | [], hvs => simp [tupVal] at hvs
            | [y], hvs =>
              simp only [tupVal, Option.bind_eq_some_iff, Option.map_eq_some_iff] at hvs
              obtain ⟨u, hu, ws, hws, rfl⟩ := hvs
              cases i with
              | zero => exact ⟨fun cs h => by simp at h, fun y' h => by simp at h; subst h; exact ⟨u, hu, by simp⟩⟩
              | succ i => simpa using ih hws i
            | _ :: _ :: _, hvs => simp [tupVal] at hvs
      split at hx
      · rename_i cs hi
        simp only [Option.map_some, Option.some.injEq, Prod.mk.injEq] at hx
        obtain ⟨rfl, rfl⟩ := hx
        obtain ⟨us, h1, h2⟩ := (tg hvs i).1 _ hi
        refine OpOk.val hr (v := .agg us.toArray) (by simp [AV.val, h1]) ?_
        simp [execOp, ho, ← he, Instr.extract, h2]
      · rename_i y hi
        simp only [Option.map_some, Option.some.injEq, Prod.mk.injEq] at hx
        obtain ⟨rfl, rfl⟩ := hx
        obtain ⟨u, h1, h2⟩ := (tg hvs i).2 _ hi
        refine OpOk.val hr (v := u) h1 ?_
        simp [execOp, ho, ← he, Instr.extract, h2]
      · cases hx
    · cases hx
  | call c =>
    simp only [ho] at hx
    split at hx
    · -- len
      rename_i hcal
      split at hx
      · rename_i t rest x hts hargs
        simp only [Option.map_eq_some_iff, Option.bind_eq_some_iff] at hx
        obtain ⟨z, hz, q, hq, he⟩ := hx; cases he
        obtain ⟨callee, args, argTypes⟩ := c
        have hts' : argTypes[0]? = some t := by rw [← Array.getElem?_toList, show argTypes.toList = t :: rest from hts]; rfl
        have ha : args = #[x] := by apply Array.ext'; exact hargs
        subst ha
        cases hcal
        unfold lenO at hq
        split at hq
        · rename_i b off n cap
          split at hq
          · rename_i e hu
            cases hq
            obtain ⟨p, c, hp, hev, hnc, _, _⟩ := eval_sl hf hz
            refine OpOk.val hr (v := goInt n) rfl ?_
            simp [execOp, ho, resolve, invoke, builtin, Builtin.len_, hts', hev, run_underlying hu]
          · cases hq
        · simp only [Option.bind_eq_some_iff] at hq
          obtain ⟨v, hv, r, hr', hof⟩ := hq
          refine OpOk.val hr (ofValue_val V hof) ?_
          have := pureRun_run hr' w
          simp only [Builtin.len_, hts', execOp, ho, resolve, invoke, builtin, Sem.run_bind, Sem.run_pure, Result.andThen_ok, List.map_toArray, List.map_cons, List.map_nil, eval_known hf hz hv] at this ⊢
          simp at this ⊢
          rw [this]
          rfl
      · cases hx
    · -- append
      rename_i hcal
      split at hx
      · rename_i x y hargs
        simp only [Option.map_eq_some_iff, Option.bind_eq_some_iff] at hx
        obtain ⟨s, hs, z, hz, q, hq, he⟩ := hx; cases he
        obtain ⟨callee, args, argTypes⟩ := c
        have ha : args = #[x, y] := by apply Array.ext'; exact hargs
        subst ha
        cases hcal
        exact op_append ho hr hf hs hz hq
      · cases hx
    · -- copy
      rename_i hcal
      split at hx
      · rename_i x y hargs
        simp only [Option.map_eq_some_iff, Option.bind_eq_some_iff] at hx
        obtain ⟨s, hs, z, hz, q, hq, he⟩ := hx; cases he
        obtain ⟨callee, args, argTypes⟩ := c
        have ha : args = #[x, y] := by apply Array.ext'; exact hargs
        subst ha
        cases hcal
        exact op_copyO ho hr hf hs hz hq
      · cases hx
    · -- min
      rename_i hcal
      simp only [Option.map_eq_some_iff, Option.bind_eq_some_iff] at hx
      obtain ⟨vs, hvs, us, hus, q, ⟨r, hr', hof⟩, he⟩ := hx; cases he
      refine OpOk.val hr (ofValue_val V hof) ?_
      have hue := mapKnown hus (evalOs_val hf hvs)
      have e2 : Array.map a.eval c.args = us.toArray := by apply Array.ext'; simp [hue]
      have := pureRun_run hr' w
      simp only [execOp, ho, resolve, hcal, invoke, builtin, Sem.run_bind, Sem.run_pure, Result.andThen_ok, e2, Builtin.min_] at this ⊢
      rw [this]
      rfl
    · -- max
      rename_i hcal
      simp only [Option.map_eq_some_iff, Option.bind_eq_some_iff] at hx
      obtain ⟨vs, hvs, us, hus, q, ⟨r, hr', hof⟩, he⟩ := hx; cases he
      refine OpOk.val hr (ofValue_val V hof) ?_
      have hue := mapKnown hus (evalOs_val hf hvs)
      have e2 : Array.map a.eval c.args = us.toArray := by apply Array.ext'; simp [hue]
      have := pureRun_run hr' w
      simp only [execOp, ho, resolve, hcal, invoke, builtin, Sem.run_bind, Sem.run_pure, Result.andThen_ok, e2, Builtin.max_] at this ⊢
      rw [this]
      rfl
    · -- a function
      rename_i g hcal
      split at hx
      · rename_i f ps hg
        simp only [Option.map_eq_some_iff, Option.bind_eq_some_iff] at hx
        obtain ⟨vs, hvs, q, hq, he⟩ := hx; cases he
        exact op_call hcall ho hcal hr hf hg hvs hq
      · cases hx
    · cases hx
  | _ => simp only [ho] at hx; cases hx

end
end Go.CX
