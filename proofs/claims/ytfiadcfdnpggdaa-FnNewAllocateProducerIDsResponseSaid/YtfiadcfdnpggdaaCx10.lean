/- Lists of operations, and regions whose order is drawn. -/
import Derived.Test.YtfiadcfdnpggdaaCx9
namespace Go.CX

section
variable {σ : Nat → Value} {P : Program} {B : Nat} {w0 : World} {V : Vn} {nt : Nat} {w : World} {a : Act}
variable {call : FuncId → List AV → Heap → Option (AV × Heap)} {ops : Array Oper}

theorem guard_val {o : Oper} {fr : T AV} {b : Bool} (hf : FRel σ V nt fr a) (hg : guardX ops fr o = some b) : Region.wanted o (yielded ops a.tmps) = b := by
  unfold guardX at hg
  unfold Region.wanted
  split at hg
  · rename_i h; rw [h]; simpa using hg
  · rename_i j want h
    rw [h]
    simp only [yielded]
    cases hd : (ops[j]?).bind (·.dst) with
    | none => rw [hd] at hg; simp at hg
    | some d =>
      rw [hd] at hg
      simp only [Option.bind_some] at hg ⊢
      split at hg
      · rename_i c hc
        obtain ⟨v, hv, hx⟩ := hf.get d _ hc
        simp only [AV.val, CV.val, oneCell, if_true, Option.some.injEq] at hx
        subst hx
        rw [hv]
        simp only [Option.some.injEq] at hg ⊢
        cases c <;> cases want <;> simp_all
      · rename_i hc
        obtain ⟨v, hv, hx⟩ := hf.get d _ hc
        simp only [AV.val, tupVal, Option.map_some, Option.some.injEq] at hx
        subst hx
        rw [hv]
        simp at hg
        simp [hg]
      · cases hg

theorem FRel.putX {fr : T AV} (hf : FRel σ V nt fr a) {dst : Option Tmp} (hd : dstOk nt dst = true) (x : Option AV) (v : Value) (hx : ∀ y, x = some y → y.val σ V = some v) : FRel σ V nt (putX fr dst x) (a.put dst v) := by
  cases dst with
  | none => exact hf
  | some d => exact hf.put (by simpa [dstOk] using hd) x v hx

theorem opsX_ok (hcall : CallOk σ P B w0 call) {Q : Exit → Act → World → Prop} : ∀ (l : List Oper) (st s : St) (sts : List St) (V : Vn) (a : Act) (w : World), opsX P call nt ops l st = some (s, sts) →
    FRel σ V nt st.fr a → HRel σ B w0 V st.h w → (∀ V' a' w', Ext V V' → FRel σ V' nt s.fr a' → HRel σ B w0 V' s.h w' → Q .normal a' w') → wpList P ops Q l a w := by
  intro l
  induction l with
  | nil =>
    intro st s sts V a w hx hf hr hq
    simp only [opsX, Option.some.injEq, Prod.mk.injEq] at hx
    obtain ⟨rfl, rfl⟩ := hx
    exact hq V a w (Ext.refl V) hf hr
  | cons o r ih =>
    intro st s sts V a w hx hf hr hq
    simp only [opsX] at hx
    split at hx
    · rename_i hd
      split at hx
      · rename_i hg
        have hw := guard_val hf hg
        split at hx
        · rename_i x h1 hop
          split at hx
          · rename_i s' l' hrec
            cases hx
            unfold wpList
            rw [if_pos hw]
            refine .inl (op_ok hcall hr hf hop _ _ ?_)
            intro V' v w' he hr' hv
            exact ih _ _ _ V' _ w' hrec ((hf.ext he).putX hd x v hv) hr' (fun V'' a'' w'' he' hf'' hr'' => hq V'' a'' w'' (he.trans he') hf'' hr'')
          · cases hx
        · cases hx
      · rename_i hg
        have hw := guard_val hf hg
        split at hx
        · rename_i s' l' hrec
          cases hx
          unfold wpList
          rw [if_neg (by rw [hw]; simp)]
          exact ih _ _ _ V _ w hrec (hf.putX hd _ undef (fun y hy => by cases hy; rfl)) hr hq
        · cases hx
      · cases hx
    · cases hx

/-- One step of the text's order. -/
def StepOk (P : Program) (call : FuncId → List AV → Heap → Option (AV × Heap)) (nt : Nat) (ops : Array Oper) (s1 : St) (o : Oper) (s2 : St) : Prop :=
  dstOk nt o.dst = true ∧
  ((guardX ops s1.fr o = some true ∧ ∃ x h, opX P call s1.fr s1.h o = some (x, h) ∧ s2 = ⟨putX s1.fr o.dst x, h⟩) ∨
   (guardX ops s1.fr o = some false ∧ s2 = ⟨putX s1.fr o.dst (some (.tup [])), s1.h⟩))

theorem opsX_steps : ∀ (l : List Oper) (st s : St) (sts : List St), opsX P call nt ops l st = some (s, sts) →
    sts.length = l.length ∧ (sts ++ [s])[0]? = some st ∧ ∀ j o, l[j]? = some o → ∃ s1 s2, (sts ++ [s])[j]? = some s1 ∧ (sts ++ [s])[j + 1]? = some s2 ∧ StepOk P call nt ops s1 o s2 := by
  intro l
  induction l with
  | nil =>
    intro st s sts hx
    simp only [opsX, Option.some.injEq, Prod.mk.injEq] at hx
    obtain ⟨rfl, rfl⟩ := hx
    exact ⟨rfl, rfl, fun j o h => by simp at h⟩
  | cons o r ih =>
    intro st s sts hx
    simp only [opsX] at hx
    split at hx
    · rename_i hd
      split at hx
      · rename_i hg
        split at hx
        · rename_i x h1 hop
          split at hx
          · rename_i s' l' hrec
            cases hx
            obtain ⟨g1, g2, g3⟩ := ih _ _ _ hrec
            refine ⟨by simp [g1], rfl, fun j p hp => ?_⟩
            cases j with
            | zero =>
              simp at hp; subst hp
              exact ⟨st, _, rfl, by simpa using g2, hd, .inl ⟨hg, x, h1, hop, rfl⟩⟩
            | succ j =>
              obtain ⟨s1, s2, k1, k2, k3⟩ := g3 j p (by simpa using hp)
              exact ⟨s1, s2, by simpa using k1, by simpa using k2, k3⟩
          · cases hx
        · cases hx
      · rename_i hg
        split at hx
        · rename_i s' l' hrec
          cases hx
          obtain ⟨g1, g2, g3⟩ := ih _ _ _ hrec
          refine ⟨by simp [g1], rfl, fun j p hp => ?_⟩
          cases j with
          | zero =>
            simp at hp; subst hp
            exact ⟨st, _, rfl, by simpa using g2, hd, .inr ⟨hg, rfl⟩⟩
          | succ j =>
            obtain ⟨s1, s2, k1, k2, k3⟩ := g3 j p (by simpa using hp)
            exact ⟨s1, s2, by simpa using k1, by simpa using k2, k3⟩
        · cases hx
      · cases hx
    · cases hx

/-- The text's run of a region, step by step. -/
structure Run (P : Program) (call : FuncId → List AV → Heap → Option (AV × Heap)) (nt : Nat) (ops : Array Oper) (X : Nat → St) : Prop where
  step : ∀ j o, ops[j]? = some o → StepOk P call nt ops (X j) o (X (j + 1))

theorem Run.fr {X : Nat → St} (hR : Run P call nt ops X) {t : Tmp} {j k : Nat} (hk : j + k ≤ ops.size) (hno : ∀ i o, j ≤ i → i < j + k → ops[i]? = some o → o.dst ≠ some t) : (X (j + k)).fr.get deep t = (X j).fr.get deep t := by
  induction k with
  | zero => rfl
  | succ k ih =>
    have hlt : j + k < ops.size := by omega
    have ho : ops[j + k]? = some ops[j + k] := by simp [hlt]
    obtain ⟨_, hs⟩ := hR.step (j + k) _ ho
    have hne := hno (j + k) _ (by omega) (by omega) ho
    rw [show j + (k + 1) = j + k + 1 by omega]
    have key : ∀ x, (putX (X (j + k)).fr ops[j + k].dst x).get deep t = (X (j + k)).fr.get deep t := by
      intro x
      cases hd : ops[j + k].dst with
      | none => rfl
      | some d => exact T.get_set_ne _ _ _ _ _ (fun e => hne (by rw [hd, e]))
    rcases hs with ⟨_, x, h, _, e⟩ | ⟨_, e⟩
    · rw [e]; simp only []; rw [key]; exact ih (by omega) (fun i o h1 h2 => hno i o h1 (by omega))
    · rw [e]; simp only []; rw [key]; exact ih (by omega) (fun i o h1 h2 => hno i o h1 (by omega))

theorem Run.h {X : Nat → St} (hR : Run P call nt ops X) {j k : Nat} (hk : j + k ≤ ops.size) (hno : ∀ i o, j ≤ i → i < j + k → ops[i]? = some o → isChain o = false) : (X (j + k)).h = (X j).h := by
  induction k with
  | zero => rfl
  | succ k ih =>
    have hlt : j + k < ops.size := by omega
    have ho : ops[j + k]? = some ops[j + k] := by simp [hlt]
    obtain ⟨_, hs⟩ := hR.step (j + k) _ ho
    have hne := hno (j + k) _ (by omega) (by omega) ho
    rw [show j + (k + 1) = j + k + 1 by omega]
    rw [← ih (by omega) (fun i o h1 h2 => hno i o h1 (by omega))]
    rcases hs with ⟨_, x, h, hop, e⟩ | ⟨_, e⟩
    · rw [e]
      simp only []
      cases hl : isLoad ops[j + k] with
      | true =>
        unfold isLoad at hl
        split at hl
        · rename_i t x' hx
          rw [opX_load hx] at hop
          simp only [Option.map_eq_some_iff, Prod.mk.injEq] at hop
          obtain ⟨_, _, _, e⟩ := hop
          exact e.symm
        · cases hl
      | false =>
        obtain ⟨q, hq⟩ := opX_float (P := P) (call := call) (fr := (X (j + k)).fr) hne hl
        rw [hq] at hop
        simp only [Option.map_eq_some_iff, Prod.mk.injEq] at hop
        obtain ⟨_, _, _, e⟩ := hop
        exact e.symm
    · rw [e]

end
end Go.CX
