/- The executor's other operations as operations of the model; all of them together. -/
import Derived.Test.YtfiadcfdnpggdaaCx6
namespace Go.CX
open Go.RowKit (Below)

section
variable {σ : Nat → Value} {P : Program} {B : Nat} {w0 : World} {V : Vn} {nt : Nat} {h h' : Heap} {w : World} {fr : T AV} {a : Act} {o : Oper} {t : TypeId} {x y : Operand}

theorem eval_known {v : Value} {z : AV} (hf : FRel σ V nt fr a) (hx : evalO fr x = some z) (hk : z.known = some v) : a.eval x = v :=
  known_val hk (evalO_val hf hx)

theorem eval_sl {b off n : Nat} {cap : Option Nat} (hf : FRel σ V nt fr a) (hx : evalO fr x = some (.c (.sl b off n cap))) :
    ∃ p c, V[b]? = some p ∧ a.eval x = .slice (some ⟨p.1, off, none⟩) n c ∧ n ≤ c ∧ (cap = none → c = p.2) ∧ (∀ q, cap = some q → c = q) := by
  have hsv := evalO_val hf hx
  simp only [AV.val] at hsv
  cases cap with
  | none =>
    simp only [CV.val, Option.bind_eq_some_iff] at hsv
    obtain ⟨p, hp, hv⟩ := hsv
    split at hv
    · rename_i hn
      simp only [Option.some.injEq] at hv
      exact ⟨p, p.2, hp, hv.symm, hn, (fun _ => rfl), (fun q hq => by cases hq)⟩
    · cases hv
  | some c =>
    simp only [CV.val] at hsv
    split at hsv
    · rename_i hn
      simp only [Option.map_eq_some_iff] at hsv
      obtain ⟨p, hp, hv⟩ := hsv
      exact ⟨p, c, hp, hv.symm, hn, (fun hq => by cases hq), (fun q hq => by cases hq; rfl)⟩
    · cases hsv

theorem equalIn_ptr (d : Nat) {e : TypeId} (hu : P.underlying t = some (.pointer e)) (ad : Addr) (w : World) :
    (Op.equalIn (d + 1) t (.pointer (some ad)) (.pointer none)).run P w = .ok false w ∧ (Op.equalIn (d + 1) t (.pointer none) (.pointer (some ad))).run P w = .ok false w := by
  simp [Op.equalIn, run_underlying hu]

theorem equalIn_sl (d : Nat) {e : TypeId} (hu : P.underlying t = some (.slice e)) (ad : Addr) (n c m k : Nat) (w : World) :
    (Op.equalIn (d + 1) t (.slice (some ad) n c) (.slice none m k)).run P w = .ok false w ∧ (Op.equalIn (d + 1) t (.slice none m k) (.slice (some ad) n c)).run P w = .ok false w := by
  simp [Op.equalIn, run_underlying hu]

theorem nilEq_eq {u v : Value} {s z : AV} {r : Bool} (hn : nilEq P t s z = some r) (hs : s.val σ V = some u) (hz : z.val σ V = some v) :
    r = false ∧ ∀ w, (Op.equal t u v).run P w = .ok false w := by
  have ptr : ∀ (b off : Nat) (u : Value), AV.val σ V (.c (.ptr b off)) = some u → ∃ ad, u = .pointer (some ad) := by
    intro b off u hu
    simp only [AV.val, CV.val, Option.map_eq_some_iff] at hu
    obtain ⟨p, _, rfl⟩ := hu
    exact ⟨_, rfl⟩
  have lit : ∀ (l u : Value), AV.val σ V (.c (.lit l)) = some u → u = l := by
    intro l u hu
    simp only [AV.val, CV.val] at hu
    split at hu <;> cases hu
    rfl
  have sl : ∀ (b off n : Nat) (c : Option Nat) (u : Value), AV.val σ V (.c (.sl b off n c)) = some u → ∃ ad n c, u = .slice (some ad) n c := by
    intro b off n c u hu
    simp only [AV.val] at hu
    cases c with
    | none =>
      simp only [CV.val, Option.bind_eq_some_iff] at hu
      obtain ⟨p, _, hu⟩ := hu
      split at hu <;> cases hu
      exact ⟨_, _, _, rfl⟩
    | some c =>
      simp only [CV.val] at hu
      split at hu
      · simp only [Option.map_eq_some_iff] at hu
        obtain ⟨p, _, rfl⟩ := hu
        exact ⟨_, _, _, rfl⟩
      · cases hu
  unfold nilEq at hn
  split at hn
  · rename_i e b off hu
    cases hn
    obtain ⟨ad, rfl⟩ := ptr _ _ _ hs
    have := lit _ _ hz; subst this
    exact ⟨rfl, fun w => (equalIn_ptr 9999 hu ad w).1⟩
  · rename_i e b off hu
    cases hn
    obtain ⟨ad, rfl⟩ := ptr _ _ _ hz
    have := lit _ _ hs; subst this
    exact ⟨rfl, fun w => (equalIn_ptr 9999 hu ad w).2⟩
  · rename_i e _ _ _ _ _ _ hu
    cases hn
    obtain ⟨ad, n, c, rfl⟩ := sl _ _ _ _ _ hs
    have := lit _ _ hz; subst this
    exact ⟨rfl, fun w => (equalIn_sl 9999 hu ad _ _ _ _ w).1⟩
  · rename_i e _ _ _ _ _ _ hu
    cases hn
    obtain ⟨ad, n, c, rfl⟩ := sl _ _ _ _ _ hz
    have := lit _ _ hs; subst this
    exact ⟨rfl, fun w => (equalIn_sl 9999 hu ad _ _ _ _ w).2⟩
  · cases hn

theorem nilEq_shape {u v : Value} {s z : AV} {r : Bool} (hn : nilEq P t s z = some r) (hs : s.val σ V = some u) (hz : z.val σ V = some v) :
    (∀ p q, u = .pointer p → v = .pointer q → True) ∧ ((∃ p q, u = .pointer p ∧ v = .pointer q) ∨ (∃ p n c q m d, u = .slice p n c ∧ v = .slice q m d)) := by
  refine ⟨fun _ _ _ _ => trivial, ?_⟩
  unfold nilEq at hn
  have lit : ∀ (l u : Value), AV.val σ V (.c (.lit l)) = some u → u = l := by
    intro l u hu
    simp only [AV.val, CV.val] at hu
    split at hu <;> cases hu
    rfl
  have ptr : ∀ (b off : Nat) (u : Value), AV.val σ V (.c (.ptr b off)) = some u → ∃ ad, u = .pointer (some ad) := by
    intro b off u hu
    simp only [AV.val, CV.val, Option.map_eq_some_iff] at hu
    obtain ⟨p, _, rfl⟩ := hu
    exact ⟨_, rfl⟩
  have sl : ∀ (b off n : Nat) (c : Option Nat) (u : Value), AV.val σ V (.c (.sl b off n c)) = some u → ∃ ad n c, u = .slice (some ad) n c := by
    intro b off n c u hu
    simp only [AV.val] at hu
    cases c with
    | none =>
      simp only [CV.val, Option.bind_eq_some_iff] at hu
      obtain ⟨p, _, hu⟩ := hu
      split at hu <;> cases hu
      exact ⟨_, _, _, rfl⟩
    | some c =>
      simp only [CV.val] at hu
      split at hu
      · simp only [Option.map_eq_some_iff] at hu
        obtain ⟨p, _, rfl⟩ := hu
        exact ⟨_, _, _, rfl⟩
      · cases hu
  split at hn
  · obtain ⟨ad, rfl⟩ := ptr _ _ _ hs; have := lit _ _ hz; exact .inl ⟨_, _, rfl, this⟩
  · obtain ⟨ad, rfl⟩ := ptr _ _ _ hz; have := lit _ _ hs; exact .inl ⟨_, _, this, rfl⟩
  · obtain ⟨ad, n, c, rfl⟩ := sl _ _ _ _ _ hs; have := lit _ _ hz; exact .inr ⟨_, _, _, _, _, _, rfl, this⟩
  · obtain ⟨ad, n, c, rfl⟩ := sl _ _ _ _ _ hz; have := lit _ _ hs; exact .inr ⟨_, _, _, _, _, _, this, rfl⟩
  · cases hn

theorem op_binO {op : BinOp} {yt : TypeId} (ho : o.op = .binOp op t x y yt) (hr : HRel σ B w0 V h w) (hf : FRel σ V nt fr a) {s z r : AV}
    (hx : evalO fr x = some s) (hy : evalO fr y = some z) (hb : binO P op t x y s z = some r) : OpOk σ P B w0 V h a w o (some r) := by
  unfold binO at hb
  split at hb
  · rename_i v u hkv hku
    simp only [Option.bind_eq_some_iff] at hb
    obtain ⟨q, hq, hof⟩ := hb
    refine OpOk.val hr (ofValue_val V hof) ?_
    have := pureRun_run hq w
    simp only [execOp, ho, eval_known hf hx hkv, eval_known hf hy hku]
    rw [Sem.run_bind, this]
    rfl
  · have hs := evalO_val hf hx
    have hz := evalO_val hf hy
    split at hb
    · simp only [Option.map_eq_some_iff] at hb
      obtain ⟨c, hc, rfl⟩ := hb
      obtain ⟨hc', heq⟩ := nilEq_eq hc hs hz
      have hsh := (nilEq_shape hc hs hz).2
      refine OpOk.val hr (v := .bool c) rfl ?_
      have hg : (eqGuard .eql t x y (a.eval x) (a.eval y)).run P w = .ok () w := by
        rcases hsh with ⟨p, q, e1, e2⟩ | ⟨p, n, c, q, m, d, e1, e2⟩ <;> rw [e1, e2] <;> rfl
      have hbin : (binOp .eql t (a.eval x) (a.eval y)).run P w = .ok (.bool c) w := by
        have := heq w
        rcases hsh with ⟨p, q, e1, e2⟩ | ⟨p, n, c, q, m, d, e1, e2⟩ <;> rw [e1, e2] at this ⊢ <;> simp [binOp, this, hc']
      simp only [execOp, ho, Sem.run_bind, hg, Result.andThen_ok, hbin, Sem.run_pure]
    · simp only [Option.map_eq_some_iff] at hb
      obtain ⟨c, hc, rfl⟩ := hb
      obtain ⟨hc', heq⟩ := nilEq_eq hc hs hz
      have hsh := (nilEq_shape hc hs hz).2
      refine OpOk.val hr (v := .bool (!c)) rfl ?_
      have hg : (eqGuard .neq t x y (a.eval x) (a.eval y)).run P w = .ok () w := by
        rcases hsh with ⟨p, q, e1, e2⟩ | ⟨p, n, c, q, m, d, e1, e2⟩ <;> rw [e1, e2] <;> rfl
      have hbin : (binOp .neq t (a.eval x) (a.eval y)).run P w = .ok (.bool (!c)) w := by
        have := heq w
        rcases hsh with ⟨p, q, e1, e2⟩ | ⟨p, n, c, q, m, d, e1, e2⟩ <;> rw [e1, e2] at this ⊢ <;> simp [binOp, this, hc']
      simp only [execOp, ho, Sem.run_bind, hg, Result.andThen_ok, hbin, Sem.run_pure]
    · cases hb

theorem op_makeO {l c : Operand} (ho : o.op = .makeSlice t l c) (hr : HRel σ B w0 V h w) (hf : FRel σ V nt fr a) {s z r : AV}
    (hx : evalO fr l = some s) (hy : evalO fr c = some z) (hm : makeO P h t s z = some (r, h')) : OpOk σ P B w0 V h' a w o (some r) := by
  unfold makeO at hm
  split at hm
  · rename_i e kn n km m he
    simp only [Option.bind_eq_some_iff] at hm
    obtain ⟨i, hi, zc, ⟨zv, hz, hof⟩, hm⟩ := hm
    split at hm
    · rename_i hc
      obtain ⟨hzl, hnt, h0, hnm, hmm, hby⟩ := hc
      have hnt : zc.isTup = false := by simpa using hnt
      cases hm
      have hcz := cells_val hnt (ofValue_val (σ := σ) V hof)
      have hzs : zv.cells.size = i.size := by have := vals_length hcz; simp at this; omega
      have e1 := eval_lit hf hx
      have e2 := eval_lit hf hy
      have hbm : (i.bytes : Int) * m ≤ 281474976710656 := by
        have : (i.bytes : Int) * m ≤ 4096 * 65536 := Int.mul_le_mul (by omega) hmm (by omega) (by omega)
        omega
      have hrun := run_make (P := P) w t e i zv he hi hz kn km n m h0 hnm hbm (by omega)
      have hrg := range_rep m.toNat i.size zv.cells hzs
      have hmade : madeCells zv.cells (m.toNat * i.size) = ((List.replicate m.toNat zv.cells.toList).flatten).toArray := by
        apply Array.ext'
        rw [List.toList_toArray]
        simpa [madeCells] using hrg
      have hr' := hr.alloc e (rep m.toNat zc.cells) _ (vals_flat hcz m.toNat)
      intro K Q hk
      refine wp_val (v := .slice (some ⟨w.heap.size, 0, none⟩) n.toNat m.toNat) ?_ (hk _ _ _ (Ext.snoc _ _) hr' ?_)
      · simp only [execOp, ho, e1, e2, Sem.run_bind, hrun, Result.andThen_ok, Sem.run_pure, hmade]
      · intro q hq
        cases hq
        have : n.toNat ≤ m.toNat := by omega
        simp [AV.val, CV.val, ← hr.len, this]
    · cases hm
  · cases hm

theorem bound_more {v : Value} {y y' : Nat} {code : BoundsCode} {q : Nat} (hy : y ≤ y') (hp : pureRun P (Instr.sliceBound v y code) = some q) (w : World) (code' : BoundsCode) :
    (Instr.sliceBound v y' code').run P w = .ok q w ∧ q ≤ y := by
  unfold Instr.sliceBound at hp ⊢
  cases v with
  | int k i =>
    by_cases hh : 0 ≤ i ∧ i ≤ y
    · have h2 : 0 ≤ i ∧ i ≤ y' := ⟨hh.1, by omega⟩
      have hp' := pureRun_run hp w
      simp [asIntOf, hh] at hp'
      simp [asIntOf, h2, hp']
      omega
    · exfalso
      simp only [asIntOf, pure_bind, if_neg hh] at hp
      unfold boundsPanic at hp
      split at hp <;> cases hp
  | pointer p => cases p <;> cases hp
  | _ => cases hp

theorem pureRun_bind {α β : Type} {s : Sem α} {f : α → Sem β} {r : β} (hp : pureRun P (s >>= f) = some r) : ∃ q, pureRun P s = some q ∧ pureRun P (f q) = some r := by
  replace hp : pureRun P (s.bind f) = some r := hp
  induction s with
  | pure q => exact ⟨q, rfl, hp⟩
  | program k ih => exact ih P hp
  | _ => cases hp

theorem bounds_more {n c : Nat} (hnc : n ≤ c) {lo hi : Option Value} {r : Nat × Nat × Nat} (hp : pureRun P (Instr.sliceBounds true n n lo hi none) = some r) (w : World) :
    (Instr.sliceBounds true n c lo hi none).run P w = .ok (r.1, r.2.1, c) w ∧ r.2.1 ≤ n ∧ r.1 ≤ r.2.1 := by
  cases hi with
  | none =>
    cases lo with
    | none =>
      have := pureRun_run hp w
      simp [Instr.sliceBounds] at this ⊢
      subst this
      simp
    | some v =>
      simp only [Instr.sliceBounds, pure_bind] at hp
      obtain ⟨q, hq, hp⟩ := pureRun_bind hp
      cases hp
      have := bound_more (Nat.le_refl n) hq w .sliceB
      simp [Instr.sliceBounds, this.1, this.2]
  | some u =>
    simp only [Instr.sliceBounds, pure_bind] at hp
    obtain ⟨q, hq, hp⟩ := pureRun_bind hp
    have h1 := bound_more hnc hq w .sliceAcap
    cases lo with
    | none =>
      cases hp
      simp [Instr.sliceBounds, h1.1, h1.2]
    | some v =>
      simp only [] at hp
      obtain ⟨q', hq', hp⟩ := pureRun_bind hp
      cases hp
      have h2 := bound_more (Nat.le_refl q) hq' w .sliceB
      simp [Instr.sliceBounds, h1.1, h1.2, h2.1, h2.2]

theorem op_sliceO {lo hi mx : Option Operand} (ho : o.op = .slice t x lo hi mx) (hr : HRel σ B w0 V h w) (hf : FRel σ V nt fr a) {s r : AV} {l u m : Option Value}
    (hx : evalO fr x = some s) (hl : optKnown fr lo = some l) (hu : optKnown fr hi = some u) (hm : optKnown fr mx = some m) (hs : sliceO P s l u m t = some r) : OpOk σ P B w0 V h a w o (some r) := by
  have opt : ∀ {q : Option Operand} {v : Option Value}, optKnown fr q = some v → q.map a.eval = v := by
    intro q v hq
    cases q with
    | none => simp [optKnown] at hq; subst hq; rfl
    | some q =>
      simp only [optKnown, Option.bind_eq_some_iff, Option.map_eq_some_iff] at hq
      obtain ⟨z, hz, k, hk, rfl⟩ := hq
      simp [eval_known hf hz hk]
  have e1 := opt hl
  have e2 := opt hu
  have e3 := opt hm
  have hexec : ∀ v, (Instr.sliceAt t (a.eval x) l u m).run P w = .ok v w → (execOp a.eval o).run P w = .ok (.value v) w := by
    intro v hv
    simp only [execOp, ho, e1, e2, e3, Sem.run_bind, hv, Result.andThen_ok, Sem.run_pure]
  unfold sliceO at hs
  split at hs
  · rename_i b off n cap
    obtain ⟨p, c, hp, he, hnc, hc1, hc2⟩ := eval_sl hf hx
    split at hs
    · rename_i e hte
      have hsl : ∀ v, (Instr.slice t (a.eval x) l u none).run P w = .ok v w → (Instr.sliceAt t (a.eval x) l u none).run P w = .ok v w := by
        intro v hv
        simp only [Instr.sliceAt, Sem.run_bind, run_underlying hte, Result.andThen_ok, hv]
      split at hs
      · rename_i size c' hsz
        have hcc := hc2 _ rfl
        subst hcc
        simp only [Option.bind_eq_some_iff] at hs
        obtain ⟨q, hq, hs⟩ := hs
        have g1 := pureRun_run hq w
        split at hs
        · rename_i hle
          split at hs
          · rename_i hmz
            cases hs
            refine OpOk.val hr (v := .slice (some ⟨p.1, off, none⟩) (q.2.1 - q.1) 0) ?_ (hexec _ (hsl _ ?_))
            · have : q.2.1 - q.1 ≤ 0 := by omega
              simp only [AV.val, CV.val, this, if_true, hp, Option.map_some]
            · rw [he]
              simp only [Instr.slice, Sem.run_bind, run_underlying hte, Result.andThen_ok, g1, run_sizeOf' hsz, Sem.run_pure, hmz, if_true, Nat.sub_self]
          · rename_i hmz
            cases hs
            refine OpOk.val hr (v := .slice (some ⟨p.1, off + q.1 * size, none⟩) (q.2.1 - q.1) (q.2.2 - q.1)) ?_ (hexec _ (hsl _ ?_))
            · have : q.2.1 - q.1 ≤ q.2.2 - q.1 := by omega
              simp only [AV.val, CV.val, this, if_true, hp, Option.map_some]
            · rw [he]
              simp only [Instr.slice, Sem.run_bind, run_underlying hte, Result.andThen_ok, g1, run_sizeOf' hsz, Sem.run_pure, hmz, if_false, Option.map_some, add_lit']
        · cases hs
      · rename_i s' hsz
        simp only [Option.bind_eq_some_iff] at hs
        obtain ⟨q, hq, hs⟩ := hs
        split at hs
        · rename_i h0
          cases hs
          obtain ⟨g1, g2, g3⟩ := bounds_more hnc hq w
          have hcp := hc1 rfl
          refine OpOk.val hr (v := .slice (some ⟨p.1, off, none⟩) q.2.1 c) ?_ (hexec _ (hsl _ ?_))
          · have : q.2.1 ≤ p.2 := by omega
            simp [AV.val, CV.val, hp, this, hcp]
          · rw [he]
            simp only [Instr.slice, Sem.run_bind, run_underlying hte, Result.andThen_ok, g1, run_sizeOf' hsz, Sem.run_pure, h0, Nat.sub_zero, Nat.zero_mul, Option.map_some]
            congr 2
            split <;> simp [Addr.add]
        · cases hs
      · cases hs
    · cases hs
  · simp only [Option.bind_eq_some_iff] at hs
    obtain ⟨v, hv, q, hq, hof⟩ := hs
    refine OpOk.val hr (ofValue_val V hof) (hexec _ ?_)
    rw [eval_known hf hx hv]
    exact pureRun_run hq w

end
end Go.CX
