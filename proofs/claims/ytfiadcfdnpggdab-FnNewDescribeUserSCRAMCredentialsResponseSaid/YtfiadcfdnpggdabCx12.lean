/- Drawn regions, code, calls: the executor's word holds of the model's runs. -/
import Derived.Test.YtfiadcfdnpggdabCx11
namespace Go.CX

section
variable {σ : Nat → Value} {P : Program} {B : Nat} {w0 : World} {nt : Nat}
variable {call : FuncId → List AV → Heap → Option (AV × Heap)} {ops : Array Oper} {X : Nat → St}

theorem all_listed (hD : DrawFacts P ops X) {listed : Array Bool} (hs : listed.size = ops.size) (hr : Region.ready .any ops listed = []) : ∀ i, i < ops.size → listed.getD i false = true := by
  intro i
  induction i using Nat.strongRecOn with
  | _ i ih =>
    intro hi
    have ho : ops[i]? = some ops[i] := by simp [hi]
    have hd : ∀ d ∈ depsOf ops[i], listed.getD d false = true := fun d hd => ih d (hD.back i _ ho d hd) (by have := hD.back i _ ho d hd; omega)
    cases hl : listed.getD i true with
    | true =>
      have : i < listed.size := by omega
      simpa [this] using hl
    | false =>
      have := ready_iff.2 ⟨_, ho, hl, hd⟩
      rw [hr] at this; cases this

theorem Inv.final (hR : Run P call nt ops X) {listed : Array Bool} {V : Vn} {c : Nat} {a : Act} {w : World} (hi : Inv σ P B w0 nt ops X listed V c a w) (hall : ∀ i, i < ops.size → listed.getD i false = true) :
    FRel σ V nt (X ops.size).fr a ∧ HRel σ B w0 V (X ops.size).h w := by
  have hl : ∀ i o, ops[i]? = some o → listed.getD i false = true := fun i o ho => hall i (Array.getElem?_eq_some_iff.1 ho).1
  refine ⟨⟨hi.defers, hi.tsize, fun t x hx => ?_⟩, ?_⟩
  · by_cases h : ∃ (i : Nat) (o : Oper), ops[i]? = some o ∧ o.dst = some t
    · obtain ⟨i, o, ho, hd⟩ := h
      exact hi.new i o t x ho hd (hl i o ho) hx
    · have hno : ∀ (i : Nat) (o : Oper), ops[i]? = some o → o.dst ≠ some t := fun i o ho hd => h ⟨i, o, ho, hd⟩
      have := hR.fr (t := t) (j := 0) (k := ops.size) (by omega) (fun i o _ _ ho => hno i o ho)
      rw [Nat.zero_add] at this
      rw [this] at hx
      exact hi.old t x (fun i o ho _ => hno i o ho) hx
  · have := hR.h (j := c) (k := ops.size - c) (by have := hi.cle; omega) (fun i o h1 h2 ho => by
      cases hc : isChain o with
      | false => rfl
      | true => have := (hi.chain i o ho hc).1 (hl i o ho); omega)
    rw [show c + (ops.size - c) = ops.size by have := hi.cle; omega] at this
    rw [this]; exact hi.heap

theorem draw_any (hcall : CallOk σ P B w0 call) (hR : Run P call nt ops X) (hD : DrawFacts P ops X) {V0 : Vn} {Q : Exit → Act → World → Prop}
    (hq : ∀ V' a' w', Ext V0 V' → FRel σ V' nt (X ops.size).fr a' → HRel σ B w0 V' (X ops.size).h w' → Q .normal a' w') :
    ∀ (fuel : Nat) (listed : Array Bool) (V : Vn) (c : Nat) (L : List Nat) (a : Act) (w : World), Inv σ P B w0 nt ops X listed V c a w → Ext V0 V →
      (∀ i, i < ops.size → listed.getD i false = false → i ∈ L) → L.length ≤ fuel → wpAny P .any ops Q fuel listed a w := by
  intro fuel
  have fin : ∀ (listed : Array Bool) (V : Vn) (c : Nat) (a : Act) (w : World), Inv σ P B w0 nt ops X listed V c a w → Ext V0 V → Region.ready .any ops listed = [] → Q .normal a w := by
    intro listed V c a w hi he hr
    obtain ⟨h1, h2⟩ := hi.final hR (all_listed hD hi.size hr)
    exact hq V a w he h1 h2
  induction fuel with
  | zero =>
    intro listed V c L a w hi he hL hlen
    have hL0 : L = [] := List.eq_nil_of_length_eq_zero (by omega)
    have hr : Region.ready .any ops listed = [] := by
      apply List.eq_nil_iff_forall_not_mem.2
      intro i him
      obtain ⟨o, ho, h1, _⟩ := ready_iff.1 him
      have hlt := (Array.getElem?_eq_some_iff.1 ho).1
      have : i < listed.size := by rw [hi.size]; exact hlt
      have := hL i hlt (by simpa [this] using h1)
      rw [hL0] at this; cases this
    exact ⟨hr, fin listed V c a w hi he hr⟩
  | succ fuel ih =>
    intro listed V c L a w hi he hL hlen
    refine ⟨fin listed V c a w hi he, fun j hj => ?_⟩
    obtain ⟨o, ho, hnl, hdeps⟩ := ready_iff.1 hj
    have hlt := (Array.getElem?_eq_some_iff.1 ho).1
    have hjl : j < listed.size := by rw [hi.size]; exact hlt
    have hnl' : listed.getD j false = false := by simpa [hjl] using hnl
    have hjL := hL j hlt hnl'
    have next : ∀ (V' : Vn) (c' : Nat) (a' : Act) (w' : World), Inv σ P B w0 nt ops X (listed.setIfInBounds j true) V' c' a' w' → Ext V V' → wpAny P .any ops Q fuel (listed.setIfInBounds j true) a' w' := by
      intro V' c' a' w' hi' he'
      refine ih _ V' c' (L.erase j) a' w' hi' (he.trans he') (fun i hil h => ?_) (by rw [List.length_erase_of_mem hjL]; omega)
      have hne : i ≠ j := fun e => by
        have := (getD_set (i := i) hjl).2 (.inl e)
        rw [h] at this; cases this
      refine (List.mem_erase_of_ne hne).2 (hL i hil ?_)
      cases hg : listed.getD i false with
      | false => rfl
      | true => have := (getD_set (i := i) hjl).2 (.inr hg); rw [h] at this; cases this
    have hfr := hi.frame
    have hag : ∀ t ∈ o.looksAt ops, (T.mix (doneB ops listed) (X ops.size).fr (X 0).fr).get deep t = (X j).fr.get deep t := fun t ht => hi.agree hR hD ho hnl hdeps ht
    have hgag := guardX_agree (ops := ops) hag
    have hopag : ∀ h, opX P call (T.mix (doneB ops listed) (X ops.size).fr (X 0).fr) h o = opX P call (X j).fr h o := fun h =>
      opX_congr fun x hx => evalO_of_get fun t ht => hag t (looksAt_operand (by rw [← ht]; exact hx))
    -- the chain operations ahead of j are all done
    have hpre : isChain o = true → c ≤ j ∧ ∀ i p, ops[i]? = some p → isChain p = true → i < j → i < c := by
      intro hc
      refine ⟨?_, fun i p hp hcp hij => (hi.chain i p hp hcp).1 (closed_reaches hi.closed 12 j i o ho hdeps (hD.chain j i o p ho hp hc hcp hij))⟩
      rcases Nat.lt_or_ge j c with h | h
      · have := (hi.chain j o ho hc).2 h
        rw [hnl'] at this; cases this
      · exact h
    have hheap : isChain o = true → (X j).h = (X c).h := by
      intro hc
      obtain ⟨h1, h2⟩ := hpre hc
      have := hR.h (j := c) (k := j - c) (by omega) (fun i p hi1 hi2 hp => by
        cases hcp : isChain p with
        | false => rfl
        | true => have := h2 i p hp hcp (by omega); omega)
      rwa [show c + (j - c) = j by omega] at this
    have hchs : isChain o = true → ∀ i p, ops[i]? = some p → isChain p = true → ((i = j ∨ listed.getD i false = true) ↔ i < j + 1) := by
      intro hc i p hp hcp
      obtain ⟨h1, h2⟩ := hpre hc
      constructor
      · rintro (rfl | h)
        · omega
        · have := (hi.chain i p hp hcp).1 h; omega
      · intro h
        by_cases e : i = j
        · exact .inl e
        · exact .inr ((hi.chain i p hp hcp).2 (h2 i p hp hcp (by omega)))
    have hchn : isChain o = false → ∀ i p, ops[i]? = some p → isChain p = true → ((i = j ∨ listed.getD i false = true) ↔ i < c) := by
      intro hc i p hp hcp
      rw [hi.chain i p hp hcp]
      constructor
      · rintro (rfl | h)
        · rw [ho] at hp; cases hp; rw [hc] at hcp; cases hcp
        · exact h
      · exact .inr
    obtain ⟨hdok, hs⟩ := hR.step j o ho
    unfold wpOp
    rw [ho]
    simp only []
    rcases hs with ⟨hg, x, h1, hop, hst⟩ | ⟨hg, hst⟩
    · have hw := guard_val hfr (by rw [hgag]; exact hg)
      rw [if_pos hw]
      refine .inl ?_
      cases hc : isChain o with
      | true =>
        have hop' : opX P call (T.mix (doneB ops listed) (X ops.size).fr (X 0).fr) (X c).h o = some (x, h1) := by rw [hopag, ← hheap hc]; exact hop
        refine op_ok hcall hi.heap hfr hop' _ _ fun V' v w' he' hr' hv => ?_
        exact next V' (j + 1) _ w' (hi.step hR hD ho hdeps hst hdok he' hv (by omega) (hchs hc) (by rw [hst]; exact hr')) he'
      | false =>
        have hsame : opX P call (T.mix (doneB ops listed) (X ops.size).fr (X 0).fr) (X c).h o = some (x, (X c).h) := by
          rw [hopag]
          cases hl : isLoad o with
          | true =>
            unfold isLoad at hl
            split at hl
            · rename_i t y hoy
              rw [opX_load hoy] at hop ⊢
              rcases hD.loads j o ho t y hoy with hgf | ⟨p, z, hp, hz, hall⟩
              · rw [hg] at hgf; cases hgf
              · rw [hp] at hop ⊢
                simp only [Option.bind_some, hz, Option.map_some, Option.some.injEq, Prod.mk.injEq] at hop
                rw [Option.bind_some, hall c hi.cle (fun i q hq hcq hrq => (hi.chain i q hq hcq).1 (closed_reaches hi.closed 12 j i o ho hdeps hrq))]
                rw [← hop.1]
                rfl
            · cases hl
          | false =>
            obtain ⟨q, hqq⟩ := opX_float (P := P) (call := call) (fr := (X j).fr) hc hl
            rw [hqq] at hop ⊢
            simp only [Option.map_eq_some_iff, Prod.mk.injEq] at hop ⊢
            obtain ⟨y, hy, rfl, _⟩ := hop
            exact ⟨y, hy, rfl, trivial⟩
        refine op_ok hcall hi.heap hfr hsame _ _ fun V' v w' he' hr' hv => ?_
        exact next V' c _ w' (hi.step hR hD ho hdeps hst hdok he' hv hi.cle (hchn hc) hr') he'
    · have hw := guard_val hfr (by rw [hgag]; exact hg)
      rw [if_neg (by rw [hw]; simp)]
      have hv : ∀ y, (some (AV.tup [])) = some y → y.val σ V = some undef := fun y hy => by cases hy; rfl
      cases hc : isChain o with
      | true => exact next V (j + 1) _ w (hi.step hR hD ho hdeps hst hdok (Ext.refl V) hv (by omega) (hchs hc) (by rw [hst]; simp only []; rw [hheap hc]; exact hi.heap)) (Ext.refl V)
      | false => exact next V c _ w (hi.step hR hD ho hdeps hst hdok (Ext.refl V) hv hi.cle (hchn hc) hi.heap) (Ext.refl V)

end
end Go.CX
