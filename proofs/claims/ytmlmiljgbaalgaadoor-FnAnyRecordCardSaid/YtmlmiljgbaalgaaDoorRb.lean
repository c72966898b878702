/- The form's reader: numbers in groups of seven bits in turns. -/
import Derived.Test.YtmlmiljgbaalgaaDoorRa
import Derived.Test.YtmlmiljgbaalgaaDoorKq
set_option linter.unusedSimpArgs false
set_option linter.unusedVariables false
namespace Go.Ar
open Go.Lx Go.Nx Go.Km Go.Mx Go.Kb

set_option linter.unusedSimpArgs false
set_option linter.unusedVariables false

section
variable {P : Program}

def rvBody : NP := .op (.bin .lss) [.s 8, .s 3] 9 <|
    .ite (.s 9)
      (.nil)
      (.exit) <|
    .op .len [.s 0] 10 <|
    .op (.bin .geq) [.s 8, .s 10] 11 <|
    .ite (.s 11)
      (.ret [.k (.int .i64 0), .k (.int .i64 0), .k (.int .i64 1)])
      (.nil) <|
    .op (.ia 1) [.s 0, .s 8] 12 <|
    .chk 12 <|
    .op .load [.q 12 0] 13 <|
    .op (.bin .and) [.s 13, .k (.int .u8 127)] 14 <|
    .op (.cv .u64) [.s 14] 15 <|
    .op (.bin .mul) [.k (.int .i64 7), .s 8] 16 <|
    .op (.bin .add) [.s 16, .k (.int .i64 7)] 17 <|
    .op (.bin .gtr) [.s 17, .s 1] 18 <|
    .ite (.s 18)
      (.set 19 (.s 15) <|
      .nil)
      (.set 19 (.k (.tuple #[])) <|
      .nil) <|
    .ite (.s 18)
      (.set 20 (.s 1) <|
      .nil)
      (.set 20 (.k (.tuple #[])) <|
      .nil) <|
    .ite (.s 18)
      (.set 21 (.s 8) <|
      .nil)
      (.set 21 (.k (.tuple #[])) <|
      .nil) <|
    .ite (.s 18)
      (.op (.bin .mul) [.k (.int .i64 7), .s 21] 22 <|
      .set 23 (.s 22) <|
      .nil)
      (.set 23 (.k (.tuple #[])) <|
      .nil) <|
    .ite (.s 18)
      (.op (.bin .sub) [.s 20, .s 23] 24 <|
      .set 25 (.s 24) <|
      .nil)
      (.set 25 (.k (.tuple #[])) <|
      .nil) <|
    .ite (.s 18)
      (.op (.sh .shr) [.s 19, .s 25] 26 <|
      .set 27 (.s 26) <|
      .nil)
      (.set 27 (.k (.tuple #[])) <|
      .nil) <|
    .ite (.s 18)
      (.op (.bin .gtr) [.s 27, .k (.int .u64 0)] 28 <|
      .set 29 (.s 28) <|
      .nil)
      (.set 29 (.k (.tuple #[])) <|
      .nil) <|
    .ite (.s 18)
      (.set 30 (.s 29) <|
      .nil)
      (.set 30 (.k (.bool false)) <|
      .nil) <|
    .ite (.s 30)
      (.ret [.k (.int .i64 0), .k (.int .i64 0), .k (.int .i64 3)])
      (.nil) <|
    .op (.bin .mul) [.k (.int .i64 7), .s 8] 31 <|
    .op (.sh .shl) [.s 15, .s 31] 32 <|
    .op (.bin .or) [.s 7, .s 32] 33 <|
    .op (.ia 1) [.s 0, .s 8] 34 <|
    .chk 34 <|
    .op .load [.q 34 0] 35 <|
    .op (.bin .lss) [.s 35, .k (.int .u8 128)] 36 <|
    .ite (.s 36)
      (.op (.sh .shr) [.s 33, .k (.int .u64 1)] 37 <|
      .op (.cv .i64) [.s 37] 38 <|
      .op (.bin .and) [.s 33, .k (.int .u64 1)] 39 <|
      .op (.cv .i64) [.s 39] 40 <|
      .op .neg [.s 40] 41 <|
      .op (.int2 .xor) [.s 38, .s 41] 42 <|
      .op (.bin .add) [.s 8, .k (.int .i64 1)] 43 <|
      .ret [.s 42, .s 43, .k (.int .i64 0)])
      (.nil) <|
    .op (.bin .add) [.s 8, .k (.int .i64 1)] 44 <|
    .set 45 (.s 33) <|
    .set 46 (.s 44) <|
    .set 7 (.s 45) <|
    .set 8 (.s 46) <|
    .nil

def p_readVarint : FnP := ⟨.op (.bin .add) [.s 1, .k (.int .i64 6)] 2 <|
  .op (.int2 .quo) [.s 2, .k (.int .i64 7)] 3 <|
  .set 4 (.k (.int .i64 0)) <|
  .set 5 (.k (.int .i64 0)) <|
  .set 6 (.k (.int .i64 0)) <|
  .set 7 (.k (.int .u64 0)) <|
  .set 8 (.k (.int .i64 0)) <|
  .loop rvBody <|
  .ret [.k (.int .i64 0), .k (.int .i64 0), .k (.int .i64 3)], [.direct, .direct, .direct]⟩

/-- What a number's reading says. -/
def VEnd (m f : Nat) (l : Bs) (n size how : Int) : Prop := match refV m f l with
  | .fine x r => n = x ∧ size = ((l.length - r.length : Nat) : Int) ∧ how = 0
  | .short => n = 0 ∧ size = 0 ∧ how = 1
  | .loose => n = 0 ∧ size = 0 ∧ how = 3

/-- So many bits in so many groups. -/
structure Bits (bits m f : Nat) : Prop where
  lo : 7 * f ≤ bits
  hi : bits < 7 * f + 7
  top : bits ≤ 64
  max : m + 1 = 2 ^ (bits - 7 * f)
  m7 : m < 128

theorem bits32 : Bits 32 15 4 := ⟨by omega, by omega, by omega, rfl, by omega⟩
theorem bits64 : Bits 64 1 9 := ⟨by omega, by omega, by omega, rfl, by omega⟩

def RvFn (P : Program) (fn : FuncId) (bits m f : Nat) : Prop := ∀ (ok : Nat → Prop) (w : World) (v : Value) (l : Bs) (K : Value → World → Prop), Sz ok w v l → l.length ≤ 1048576 →
  (∀ n size how, VEnd m f l n size how → K (.tuple #[.int .i64 n, .int .i64 size, .int .i64 how]) w) → In.wp P (.call fn) [v, .int .i64 (bits : Int)] w K

/-- The turns' bits, as a signed number. -/
theorem zigI (n : Nat) (h : n < 2 ^ 64) : intV2 .xor .i64 ((n / 2 : Nat) : Int) (IntKind.i64.wrap (0 - ((n % 2 : Nat) : Int))) = some (.int .i64 (zig n)) := by
  have hb : IntKind.i64.bits = 64 := rfl
  show some (Value.int .i64 (IntKind.i64.wrap _)) = _
  rw [hb]
  rcases Nat.mod_two_eq_zero_or_one n with h2 | h2
  · rw [h2]
    have : IntKind.i64.wrap (0 - ((0 : Nat) : Int)) = 0 := by decide
    rw [this, xor0 64 (n / 2) (by omega), wrap64 _ (by omega) (by omega)]
    simp only [zig, h2, if_true]
  · rw [h2]
    have : IntKind.i64.wrap (0 - ((1 : Nat) : Int)) = -1 := by decide
    have e : IntKind.i64.wrap ((2 ^ 64 - 1 - n / 2 : Nat) : Int) = -((n / 2 : Nat) : Int) - 1 := by rw [IntKind.wrap_i64]; omega
    rw [this, xor1 64 (n / 2) (by omega), e]
    simp only [zig, h2, show ¬ (1 = 0) by omega, if_false]

/-- What is left of a number at its i-th group. -/
def RvAt (m f : Nat) (l : Bs) (i A : Nat) : Prop := A < 2 ^ (7 * i) ∧ refN m f l = (refN m (f - i) (l.drop i)).map fun n => A + 2 ^ (7 * i) * n

theorem Rs.map_map {α β γ : Type} (x : Rs α) (f : α → β) (g : β → γ) : (x.map f).map g = x.map fun a => g (f a) := by cases x <;> rfl

theorem rvAt_step {m f : Nat} {l : Bs} {i A : Nat} (h : RvAt m f l i A) (hi : i < f) (hlt : i < l.length) (hb : ¬ l[i].toNat < 128) : RvAt m f l (i + 1) (A + l[i].toNat % 128 * 2 ^ (7 * i)) := by
  obtain ⟨h1, h2⟩ := h
  have e7 : 2 ^ (7 * (i + 1)) = 2 ^ (7 * i) * 128 := by rw [Nat.mul_add, Nat.pow_add]
  refine ⟨?_, ?_⟩
  · have h3 : l[i].toNat % 128 * 2 ^ (7 * i) ≤ 127 * 2 ^ (7 * i) := Nat.mul_le_mul_right _ (by omega)
    rw [e7]; omega
  · rw [h2, List.drop_eq_getElem_cons hlt]
    have e4 : f - i = (f - (i + 1)) + 1 := by omega
    rw [e4]
    simp only [refN, hb, if_false, Rs.map_map]
    congr 1
    funext n
    rw [e7, Nat.mul_add, ← Nat.add_assoc, Nat.mul_comm (2 ^ (7 * i)) (l[i].toNat % 128), Nat.mul_assoc]

theorem rvAt_stop {m f : Nat} {l : Bs} {i A : Nat} (h : RvAt m f l i A) (hi : i ≤ f) (hlt : i < l.length) (hb : l[i].toNat < 128) (hm : i = f → ¬ m < l[i].toNat % 128) : VEnd m f l (zig (A + l[i].toNat % 128 * 2 ^ (7 * i))) ((i + 1 : Nat) : Int) 0 := by
  obtain ⟨h1, h2⟩ := h
  have hr : refN m (f - i) (l.drop i) = .fine l[i].toNat (l.drop (i + 1)) := by
    rw [List.drop_eq_getElem_cons hlt]
    by_cases hf : i = f
    · have e : f - i = 0 := by omega
      rw [e]; simp only [refN, hm hf, if_false, hb, if_true]
    · have e4 : f - i = (f - (i + 1)) + 1 := by omega
      rw [e4]; simp only [refN, hb, if_true]
  unfold VEnd refV
  rw [h2, hr]
  dsimp only [Rs.map]
  refine ⟨?_, by simp only [List.length_drop]; omega, rfl⟩
  rw [Nat.mod_eq_of_lt hb, Nat.mul_comm]

theorem rvAt_short {m f : Nat} {l : Bs} {i A : Nat} (h : RvAt m f l i A) (hlt : ¬ i < l.length) : VEnd m f l 0 0 1 := by
  obtain ⟨h1, h2⟩ := h
  rw [List.drop_of_length_le (by omega)] at h2
  have : refN m (f - i) [] = .short := by cases f - i <;> rfl
  rw [this] at h2
  unfold VEnd refV
  rw [h2]
  exact ⟨rfl, rfl, rfl⟩

theorem rvAt_loose {m f : Nat} {l : Bs} {A : Nat} (h : RvAt m f l f A) (hlt : f < l.length) (hb : m < l[f].toNat % 128 ∨ ¬ l[f].toNat < 128) : VEnd m f l 0 0 3 := by
  obtain ⟨h1, h2⟩ := h
  rw [List.drop_eq_getElem_cons hlt, Nat.sub_self] at h2
  have : refN m 0 (l[f] :: l.drop (f + 1)) = .loose := by
    simp only [refN]
    rcases hb with hb | hb
    · rw [if_pos hb]
    · split
      · rfl
      · first | rfl | rw [if_neg hb]
  rw [this] at h2
  unfold VEnd refV
  rw [h2]
  exact ⟨rfl, rfl, rfl⟩

theorem mul7 (i : Nat) (h : i < 1000) : binV .mul .i64 7 (i : Int) = some (.int .i64 ((7 * i : Nat) : Int)) := by
  simp only [binV]
  rw [wrap64 _ (by omega) (by omega)]
  simp

theorem np_ret {xs : List SV} {vs : List Value} {η : Nat → Value} {w : World} {Q : Post} (h : xs.map (SV.val η) = vs) (hq : Q (.ret vs) η w) : (NP.ret xs).wp P Q η w := by
  show Q (.ret (xs.map (SV.val η))) η w
  rw [h]; exact hq

/-- A round: its end, or the next. -/
theorem rv_round {bits m f : Nat} (hB : Bits bits m f) {ok : Nat → Prop} {v : Value} {l : Bs} {w : World} {η : Nat → Value} {Q : Post} {i A : Nat} (hsl : Sz ok w v l) (hll : l.length ≤ 1048576) (hi : i ≤ f) (h0 : η 0 = v) (h1 : η 1 = .int .i64 (bits : Int)) (h3 : η 3 = .int .i64 ((f + 1 : Nat) : Int)) (h7 : η 7 = .int .u64 (A : Int)) (h8 : η 8 = .int .i64 (i : Int)) (hA : RvAt m f l i A)
    (hret : ∀ n size how η', VEnd m f l n size how → Q (.ret [.int .i64 n, .int .i64 size, .int .i64 how]) η' w)
    (hnext : ∀ η' A', (i < f → RvAt m f l (i + 1) A') → (i = f → VEnd m f l 0 0 3) → η' 0 = v → η' 1 = .int .i64 (bits : Int) → η' 3 = .int .i64 ((f + 1 : Nat) : Int) → η' 7 = .int .u64 (A' : Int) → η' 8 = .int .i64 ((i + 1 : Nat) : Int) → Q .nrm η' w) : rvBody.wp P Q η w := by
  have hf9 : f ≤ 9 := by have := hB.lo; have := hB.top; omega
  obtain ⟨a, c, hv, hc⟩ := sz_slice hsl
  refine np_op (vs := [.int .i64 (i : Int), .int .i64 ((f + 1 : Nat) : Int)]) (by simp [SV.val, h8, h3]) ⟨.i64, _, _, _, rfl, rfl, ?_⟩
  refine iT (by simp [SV.val, upd]; omega) ?_
  refine np_op (vs := [v]) (by simp [SV.val, upd, h0]) ⟨a, _, c, by rw [hv], ?_⟩
  refine np_op (vs := [.int .i64 (i : Int), goInt l.length]) (by simp [SV.val, upd, h8]) ⟨.i64, _, _, _, rfl, rfl, ?_⟩
  by_cases hlt : i < l.length
  · refine iF (by simp [SV.val, upd, goInt]; omega) ?_
    obtain ⟨a, c, hv, hc, hb⟩ := sz_some hsl (by intro h; subst h; simp at hlt)
    have hb8 := l[i].toNat_lt
    have hcell := hb.2.2 i hlt
    refine np_op (vs := [v, .int .i64 (i : Int)]) (by simp [SV.val, upd, h0, h8]) ⟨a, l.length, c, .i64, i, by rw [hv], hlt, ?_⟩
    rw [Nat.mul_one]
    refine ⟨⟨_, by simp only [upd]; rfl⟩, ?_⟩
    refine np_op (vs := [.pointer (some (a.add i))]) (by simp [SV.val, upd, add0]) ⟨_, _, rfl, hcell, ?_⟩
    have hand := and_nat .u8 rfl l[i].toNat 127 hb8 (by decide)
    rw [and127' _ hb8] at hand
    refine np_op (vs := [u8 l[i], .int .u8 127]) (by simp [SV.val, upd]) ⟨.u8, _, _, _, rfl, hand, ?_⟩
    refine np_op (vs := [.int .u8 ((l[i].toNat % 128 : Nat) : Int)]) (by simp [SV.val, upd]) ⟨.u8, _, rfl, ?_⟩
    rw [wrap_nat .u64 rfl _ (by have : (2:Nat) ^ IntKind.u64.bits = 18446744073709551616 := rfl; omega)]
    refine np_op (vs := [.int .i64 7, .int .i64 (i : Int)]) (by simp [SV.val, upd, h8]) ⟨.i64, _, _, _, rfl, mul7 i (by omega), ?_⟩
    refine np_op (vs := [.int .i64 ((7 * i : Nat) : Int), .int .i64 7]) (by simp [SV.val, upd]) ⟨.i64, _, _, _, rfl, rfl, ?_⟩
    rw [wrap64 _ (by omega) (by omega)]
    refine np_op (vs := [.int .i64 (((7 * i : Nat) : Int) + 7), .int .i64 (bits : Int)]) (by simp [SV.val, upd, h1]) ⟨.i64, _, _, _, rfl, rfl, ?_⟩
    -- behind the test
    have tail : ∀ η' : Nat → Value, η' 0 = v → η' 1 = .int .i64 (bits : Int) → η' 3 = .int .i64 ((f + 1 : Nat) : Int) → η' 7 = .int .u64 (A : Int) → η' 8 = .int .i64 (i : Int) → η' 15 = .int .u64 ((l[i].toNat % 128 : Nat) : Int) → η' 30 = .bool (decide (i = f ∧ m < l[i].toNat % 128)) →
        (NP.ite (.s 30) (.ret [.k (.int .i64 0), .k (.int .i64 0), .k (.int .i64 3)]) .nil <| .op (.bin .mul) [.k (.int .i64 7), .s 8] 31 <|
          .op (.sh .shl) [.s 15, .s 31] 32 <|
          .op (.bin .or) [.s 7, .s 32] 33 <|
          .op (.ia 1) [.s 0, .s 8] 34 <|
          .chk 34 <|
          .op .load [.q 34 0] 35 <|
          .op (.bin .lss) [.s 35, .k (.int .u8 128)] 36 <|
          .ite (.s 36)
            (.op (.sh .shr) [.s 33, .k (.int .u64 1)] 37 <|
            .op (.cv .i64) [.s 37] 38 <|
            .op (.bin .and) [.s 33, .k (.int .u64 1)] 39 <|
            .op (.cv .i64) [.s 39] 40 <|
            .op .neg [.s 40] 41 <|
            .op (.int2 .xor) [.s 38, .s 41] 42 <|
            .op (.bin .add) [.s 8, .k (.int .i64 1)] 43 <|
            .ret [.s 42, .s 43, .k (.int .i64 0)])
            (.nil) <|
          .op (.bin .add) [.s 8, .k (.int .i64 1)] 44 <|
          .set 45 (.s 33) <|
          .set 46 (.s 44) <|
          .set 7 (.s 45) <|
          .set 8 (.s 46) <|
          .nil).wp P Q η' w := by
      intro η' z0 z1 z3 z7 z8 z15 z30
      by_cases hlo : i = f ∧ m < l[i].toNat % 128
      · refine iT (by show η' 30 = _; rw [z30, decide_eq_true hlo]) ?_
        obtain ⟨rfl, hlo⟩ := hlo
        exact hret _ _ _ _ (rvAt_loose hA hlt (.inl hlo))
      · refine iF (by show η' 30 = _; rw [z30, decide_eq_false hlo]) ?_
        have hbits : (2 : Nat) ^ IntKind.u64.bits = 2 ^ 64 := rfl
        have hAlt := hA.1
        have hgb : l[i].toNat % 128 * 2 ^ (7 * i) < 2 ^ 64 ∧ A + l[i].toNat % 128 * 2 ^ (7 * i) < 2 ^ 64 := by
          by_cases hif : i = f
          · subst hif
            have hm : l[i].toNat % 128 ≤ m := by
              by_cases hq : m < l[i].toNat % 128
              · exact (hlo ⟨rfl, hq⟩).elim
              · omega
            have e1 : (m + 1) * 2 ^ (7 * i) = 2 ^ bits := by rw [hB.max, ← Nat.pow_add]; congr 1; have := hB.lo; omega
            have e2 : 2 ^ bits ≤ 2 ^ 64 := Nat.pow_le_pow_right (by omega) hB.top
            have e3 : l[i].toNat % 128 * 2 ^ (7 * i) ≤ m * 2 ^ (7 * i) := Nat.mul_le_mul_right _ hm
            have e4 : (m + 1) * 2 ^ (7 * i) = m * 2 ^ (7 * i) + 2 ^ (7 * i) := Nat.succ_mul _ _
            omega
          · have h7j : 7 * i + 7 ≤ 63 := by omega
            have hle63 : 2 ^ (7 * i + 7) ≤ 2 ^ 63 := Nat.pow_le_pow_right (by omega) h7j
            have e77 : 2 ^ (7 * i + 7) = 2 ^ (7 * i) * 128 := Nat.pow_add 2 (7 * i) 7
            have hmul : l[i].toNat % 128 * 2 ^ (7 * i) ≤ 127 * 2 ^ (7 * i) := Nat.mul_le_mul_right _ (by omega)
            omega
        refine np_op (vs := [.int .i64 7, .int .i64 (i : Int)]) (by simp [SV.val, z8]) ⟨.i64, _, _, _, rfl, mul7 i (by omega), ?_⟩
        have hshl := shl_nat .u64 rfl (l[i].toNat % 128) (7 * i) (by show 7 * i ≤ 64; omega) (by rw [hbits]; exact hgb.1)
        refine np_op (vs := [.int .u64 ((l[i].toNat % 128 : Nat) : Int), .int .i64 ((7 * i : Nat) : Int)]) (by simp [SV.val, upd, z15]) ⟨.u64, _, .i64, 7 * i, _, rfl, hshl, ?_⟩
        have hor := or_nat .u64 rfl A (l[i].toNat % 128 * 2 ^ (7 * i)) (by rw [hbits]; omega) (by rw [hbits]; exact hgb.1)
        rw [or_add A _ _ hAlt] at hor
        refine np_op (vs := [.int .u64 (A : Int), .int .u64 ((l[i].toNat % 128 * 2 ^ (7 * i) : Nat) : Int)]) (by simp [SV.val, upd, z7]) ⟨.u64, _, _, _, rfl, hor, ?_⟩
        refine np_op (vs := [v, .int .i64 (i : Int)]) (by simp [SV.val, upd, z0, z8]) ⟨a, l.length, c, .i64, i, by rw [hv], hlt, ?_⟩
        rw [Nat.mul_one]
        refine ⟨⟨_, by simp only [upd]; rfl⟩, ?_⟩
        refine np_op (vs := [.pointer (some (a.add i))]) (by simp [SV.val, upd, add0]) ⟨_, _, rfl, hcell, ?_⟩
        refine np_op (vs := [u8 l[i], .int .u8 128]) (by simp [SV.val, upd]) ⟨.u8, _, _, _, rfl, rfl, ?_⟩
        by_cases hb7 : l[i].toNat < 128
        · refine iT (by simp [SV.val, upd]; omega) ?_
          generalize hU : A + l[i].toNat % 128 * 2 ^ (7 * i) = U at hgb ⊢
          have hshr : ((U : Nat) : Int).fdiv (2 ^ (min 1 IntKind.u64.bits)) = ((U / 2 : Nat) : Int) := by
            rw [show min 1 IntKind.u64.bits = 1 from rfl, Int.pow_one]; exact half U
          refine np_op (vs := [.int .u64 (U : Int), .int .u64 ((1 : Nat) : Int)]) (by simp [SV.val, upd, hU]) ⟨.u64, _, .u64, 1, _, rfl, rfl, ?_⟩
          rw [hshr]
          refine np_op (vs := [.int .u64 ((U / 2 : Nat) : Int)]) (by simp [SV.val, upd]) ⟨.u64, _, rfl, ?_⟩
          rw [wrap64 _ (by omega) (by omega)]
          have hand1 := and_nat .u64 rfl U 1 (by rw [hbits]; exact hgb.2) (by decide)
          rw [and1] at hand1
          refine np_op (vs := [.int .u64 (U : Int), .int .u64 1]) (by simp [SV.val, upd, hU]) ⟨.u64, _, _, _, rfl, hand1, ?_⟩
          refine np_op (vs := [.int .u64 ((U % 2 : Nat) : Int)]) (by simp [SV.val, upd]) ⟨.u64, _, rfl, ?_⟩
          rw [wrap64 _ (by omega) (by omega)]
          refine np_op (vs := [.int .i64 ((U % 2 : Nat) : Int)]) (by simp [SV.val, upd]) ⟨.i64, _, rfl, ?_⟩
          refine np_op (vs := [.int .i64 ((U / 2 : Nat) : Int), .int .i64 (IntKind.i64.wrap (0 - ((U % 2 : Nat) : Int)))]) (by simp [SV.val, upd]) ⟨.i64, _, _, _, rfl, zigI U hgb.2, ?_⟩
          refine np_op (vs := [.int .i64 (i : Int), .int .i64 1]) (by simp [SV.val, upd, z8]) ⟨.i64, _, _, _, rfl, rfl, ?_⟩
          rw [wrap64 ((i : Int) + 1) (by omega) (by omega)]
          have hend := rvAt_stop hA hi hlt hb7 (fun e h => hlo ⟨e, h⟩)
          rw [hU] at hend
          exact np_ret (vs := [.int .i64 (zig U), .int .i64 ((i + 1 : Nat) : Int), .int .i64 0]) (by simp [SV.val, upd]) (hret _ _ _ _ hend)
        · refine iF (by simp [SV.val, upd]; omega) ?_
          refine np_op (vs := [.int .i64 (i : Int), .int .i64 1]) (by simp [SV.val, upd, z8]) ⟨.i64, _, _, _, rfl, rfl, ?_⟩
          rw [wrap64 _ (by omega) (by omega)]
          refine hnext _ (A + l[i].toNat % 128 * 2 ^ (7 * i)) (fun hif => rvAt_step hA hif hlt hb7) (fun hif => by subst hif; exact rvAt_loose hA hlt (.inr hb7)) (by simp [upd, z0]) (by simp [upd, z1]) (by simp [upd, z3]) (by simp [upd, SV.val]) (by simp [upd, SV.val])
    by_cases hif : i = f
    · have hgt : ((7 * i : Nat) : Int) + 7 > (bits : Int) := by have := hB.hi; omega
      refine iT (by simp [SV.val, upd]; omega) ?_
      refine iT (by simp [SV.val, upd]; omega) ?_
      refine iT (by simp [SV.val, upd]; omega) ?_
      refine iT (by simp [SV.val, upd]; omega) ?_
      refine np_op (vs := [.int .i64 7, .int .i64 (i : Int)]) (by simp [SV.val, upd, h8]) ⟨.i64, _, _, _, rfl, mul7 i (by omega), ?_⟩
      refine iT (by simp [SV.val, upd]; omega) ?_
      refine np_op (vs := [.int .i64 (bits : Int), .int .i64 ((7 * i : Nat) : Int)]) (by simp [SV.val, upd, h1]) ⟨.i64, _, _, _, rfl, rfl, ?_⟩
      rw [wrap64 _ (by have := hB.lo; omega) (by have := hB.top; omega)]
      have hsub : (bits : Int) - ((7 * i : Nat) : Int) = ((bits - 7 * i : Nat) : Int) := by have := hB.lo; omega
      rw [hsub]
      refine iT (by simp [SV.val, upd]; omega) ?_
      refine np_op (vs := [.int .u64 ((l[i].toNat % 128 : Nat) : Int), .int .i64 ((bits - 7 * i : Nat) : Int)]) (by simp [SV.val, upd]) ⟨.u64, _, .i64, bits - 7 * i, _, rfl, rfl, ?_⟩
      have hshr : ((l[i].toNat % 128 : Nat) : Int).fdiv (2 ^ (min (bits - 7 * i) IntKind.u64.bits)) = ((l[i].toNat % 128 / (m + 1) : Nat) : Int) := by
        have e1 : min (bits - 7 * i) IntKind.u64.bits = bits - 7 * i := by have := hB.hi; rw [show IntKind.u64.bits = 64 from rfl]; omega
        have e2 : (2 : Int) ^ (bits - 7 * i) = ((m + 1 : Nat) : Int) := by rw [hB.max, hif]; simp
        rw [e1, e2, Int.fdiv_eq_ediv_of_nonneg _ (by omega)]
        simp
      rw [hshr]
      refine iT (by simp [SV.val, upd]; omega) ?_
      refine np_op (vs := [.int .u64 ((l[i].toNat % 128 / (m + 1) : Nat) : Int), .int .u64 0]) (by simp [SV.val, upd]) ⟨.u64, _, _, _, rfl, rfl, ?_⟩
      refine iT (by simp [SV.val, upd]; omega) ?_
      refine tail _ (by simp [upd, h0]) (by simp [upd, h1]) (by simp [upd, h3]) (by simp [upd, h7]) (by simp [upd, h8]) (by simp [upd]) ?_
      have : decide (((l[i].toNat % 128 / (m + 1) : Nat) : Int) > 0) = decide (i = f ∧ m < l[i].toNat % 128) := by
        rw [Bool.eq_iff_iff]; simp only [decide_eq_true_eq]
        constructor
        · intro h
          refine ⟨hif, ?_⟩
          have : 0 < l[i].toNat % 128 / (m + 1) := by omega
          have := (Nat.div_pos_iff.1 this).2
          omega
        · rintro ⟨_, h⟩
          have : 0 < l[i].toNat % 128 / (m + 1) := Nat.div_pos (by omega) (by omega)
          omega
      simp only [upd, SV.val, if_true]
      simpa using this
    · have hle : ¬ (((7 * i : Nat) : Int) + 7 > (bits : Int)) := by have := hB.lo; omega
      refine iF (by simp [SV.val, upd]; omega) ?_
      refine iF (by simp [SV.val, upd]; omega) ?_
      refine iF (by simp [SV.val, upd]; omega) ?_
      refine iF (by simp [SV.val, upd]; omega) ?_
      refine iF (by simp [SV.val, upd]; omega) ?_
      refine iF (by simp [SV.val, upd]; omega) ?_
      refine iF (by simp [SV.val, upd]; omega) ?_
      refine iF (by simp [SV.val, upd]; omega) ?_
      exact tail _ (by simp [upd, h0]) (by simp [upd, h1]) (by simp [upd, h3]) (by simp [upd, h7]) (by simp [upd, h8]) (by simp [upd]) (by simp [upd, SV.val, hif])
  · refine iT (by simp [SV.val, upd, goInt]; omega) ?_
    exact hret _ _ _ _ (rvAt_short hA hlt)

theorem readVarint_ok (hn : Named P) {fn : FuncId} (hf : fnP P fn 2 = some p_readVarint) {bits m f : Nat} (hB : Bits bits m f) (hq : (bits + 6) / 7 = f + 1) : RvFn P fn bits m f := by
  intro ok w v l K hsl hll hk
  refine calls_of_np hn (vs := [v, .int .i64 (bits : Int)]) hf fun η hη => ?_
  have h0 : η 0 = v := hη 0 (by simp)
  have h1 : η 1 = .int .i64 (bits : Int) := hη 1 (by simp)
  have htop := hB.top
  refine np_op (vs := [.int .i64 (bits : Int), .int .i64 6]) (by simp [SV.val, h1]) ⟨.i64, _, _, _, rfl, rfl, ?_⟩
  rw [wrap64 _ (by omega) (by omega)]
  have hquo : intV2 .quo .i64 ((bits : Int) + 6) 7 = some (.int .i64 ((f + 1 : Nat) : Int)) := by
    have e : ((bits : Int) + 6).tdiv 7 = ((f + 1 : Nat) : Int) := by
      rw [← hq, show (bits : Int) + 6 = ((bits + 6 : Nat) : Int) by omega, show (7 : Int) = ((7 : Nat) : Int) by rfl, ← Int.ofNat_tdiv]
    show (if (7 : Int) = 0 then none else some (Value.int .i64 (IntKind.i64.wrap (((bits : Int) + 6).tdiv 7)))) = _
    rw [if_neg (by decide), e, wrap64 _ (by omega) (by have := hB.lo; omega)]
  refine np_op (vs := [.int .i64 ((bits : Int) + 6), .int .i64 7]) (by simp [SV.val, upd]) ⟨.i64, _, _, _, rfl, hquo, ?_⟩
  have hret : ∀ n size how η', VEnd m f l n size how → postP [.direct, .direct, .direct] K (.ret [.int .i64 n, .int .i64 size, .int .i64 how]) η' w := fun n size how η' h => hk n size how h
  refine lp (fun r η' w' => w' = w ∧ ∃ (i A : Nat), i + r = f + 1 ∧ η' 0 = v ∧ η' 1 = .int .i64 (bits : Int) ∧ η' 3 = .int .i64 ((f + 1 : Nat) : Int) ∧ η' 7 = .int .u64 (A : Int) ∧ η' 8 = .int .i64 (i : Int) ∧ (i ≤ f → RvAt m f l i A) ∧ (i = f + 1 → VEnd m f l 0 0 3)) (f + 1)
    ⟨rfl, 0, 0, by omega, by simp [upd, h0], by simp [upd, h1], by simp [upd], by simp [upd, SV.val], by simp [upd, SV.val], fun _ => ⟨by simp, ?_⟩, fun h => by omega⟩ ?_
  · simp only [Nat.sub_zero, List.drop_zero, Nat.mul_zero, Nat.pow_zero, Nat.one_mul, Nat.zero_add]
    cases refN m f l <;> rfl
  · rintro r η' w' ⟨rfl, i, A, hir, z0, z1, z3, z7, z8, zA, zE⟩
    by_cases hi : i ≤ f
    · refine rv_round hB hsl hll hi z0 z1 z3 z7 z8 (zA hi) (fun n size how η'' h => hret n size how η'' h) fun η'' A' g1 g2 y0 y1 y3 y7 y8 => ?_
      exact ⟨r - 1, by omega, rfl, i + 1, A', by omega, y0, y1, y3, y7, y8, fun h => g1 (by omega), fun h => g2 (by omega)⟩
    · have hif : i = f + 1 := by omega
      subst hif
      refine np_op (vs := [.int .i64 ((f + 1 : Nat) : Int), .int .i64 ((f + 1 : Nat) : Int)]) (by simp [SV.val, z8, z3]) ⟨.i64, _, _, _, rfl, rfl, ?_⟩
      refine iF (by simp [SV.val, upd]) ?_
      exact hret _ _ _ η (zE rfl)

end
end Go.Ar

/- The form's reader: its place, what fails it, what it takes. -/
namespace Go.Ar
open Go.Lx Go.Nx Go.Km Go.Mx Go.Kb

set_option linter.unusedSimpArgs false
set_option linter.unusedVariables false

def SOk (l : Bs) (pos : Nat) (how : Int) : Rs Unit → Prop
  | .fine _ r => how = 0 ∧ r = l.drop pos
  | .short => how = 1
  | .loose => how = 3

/-- The reader's place and how it fares. -/
def SRow (w : World) (R : Nat) (bv : Value) (l : Bs) (s : Rs Unit) : Prop := ∃ (pos : Nat) (how : Int), Row w R [bv, .int .i64 (pos : Int), .int .i64 how] ∧ pos ≤ l.length ∧ SOk l pos how s

def sstep {α : Type} (s : Rs Unit) (d : Bs → Rs α) : Rs Unit := (s.bind fun _ r => d r).map fun _ => ()

theorem SRow.keep {w w' : World} {R : Nat} {bv : Value} {l : Bs} {s : Rs Unit} (h : SRow w R bv l s) {A : List Nat} (k : Keep A w w') (hA : R ∉ A) : SRow w' R bv l s := by
  obtain ⟨pos, how, h1, h2, h3⟩ := h
  exact ⟨pos, how, h1.keep k hA, h2, h3⟩

section
variable {P : Program}

def p_fail : FnP := ⟨.chk 0 <|
  .op .load [.q 0 2] 2 <|
  .op (.bin .eql) [.s 2, .k (.int .i64 0)] 3 <|
  .ite (.s 3)
    (.op (.store 1) [.q 0 2, .s 1] 4 <|
    .nil)
    (.nil) <|
  .nil, []⟩

def FailFn (P : Program) (f : FuncId) : Prop := ∀ (w : World) (R : Nat) (bv p : Value) (how h : Int) (K : Value → World → Prop), Row w R [bv, p, .int .i64 how] →
  (∀ u w', Keep [R] w w' → Row w' R [bv, p, .int .i64 (if how = 0 then h else how)] → K u w') → In.wp P (.call f) [ptr R, .int .i64 h] w K

theorem fail_ok (hn : Named P) {f : FuncId} (hf : fnP P f 2 = some p_fail) : FailFn P f := by
  intro w R bv p how h K hr hk
  refine calls_of_np hn (vs := [ptr R, .int .i64 h]) hf fun η hη => ?_
  have h0 : η 0 = ptr R := hη 0 (by simp)
  have h1 : η 1 = .int .i64 h := hη 1 (by simp)
  refine ⟨⟨_, h0⟩, ?_⟩
  refine np_op (vs := [.pointer (some ⟨R, 2, none⟩)]) (by simp [SV.val, h0, Addr.add]) (wp_load hr rfl ?_)
  refine np_op (vs := [.int .i64 how, .int .i64 0]) (by simp [SV.val, upd]) ⟨.i64, _, _, _, rfl, rfl, ?_⟩
  by_cases hz : how = 0
  · refine iT (by simp [SV.val, upd, hz]) ?_
    refine np_op (vs := [.pointer (some ⟨R, 2, none⟩), .int .i64 h]) (by simp [SV.val, upd, h0, h1, Addr.add]) (wp_store hr (Fit.one rfl rfl) (by simp) fun w1 r1 k1 => ?_)
    have r1 : Row w1 R [bv, p, .int .i64 h] := r1
    exact ⟨rfl, hk _ w1 k1 (by rw [if_pos hz]; exact r1)⟩
  · refine iF (by simp [SV.val, upd, hz]) ?_
    exact ⟨rfl, hk _ w (Keep.refl _ _) (by rw [if_neg hz]; exact hr)⟩

def tkTail : NP := .op .load [.q 0 2] 24 <|
  .op (.bin .neq) [.s 24, .k (.int .i64 0)] 25 <|
  .ite (.s 25)
    (.ret [.k (.slice none 0 0)])
    (.nil) <|
  .op .load [.q 0 1] 26 <|
  .op (.bin .add) [.s 26, .s 1] 27 <|
  .op (.store 1) [.q 0 1, .s 27] 28 <|
  .draw <|
  .look .load [.q 0 0] 29 <|
  .look .load [.q 0 1] 30 <|
  .look (.bin .sub) [.s 30, .s 1] 31 <|
  .look .load [.q 0 1] 32 <|
  .look (.sl 1 true true false) [.s 29, .s 31, .s 32] 33 <|
  .ret [.s 33]

def p_take (fail : FuncId) : FnP := ⟨.draw <|
  .chk 0 <|
  .look .load [.q 0 2] 2 <|
  .look (.bin .eql) [.s 2, .k (.int .i64 0)] 3 <|
  .ite (.s 3)
    (.look .load [.q 0 0] 4 <|
    .look .len [.s 4] 5 <|
    .look .load [.q 0 1] 6 <|
    .look (.bin .sub) [.s 5, .s 6] 7 <|
    .look (.bin .gtr) [.s 1, .s 7] 8 <|
    .set 9 (.k (.bool true)) <|
    .set 10 (.s 1) <|
    .set 11 (.s 0) <|
    .set 12 (.q 0 0) <|
    .set 13 (.q 0 0) <|
    .set 14 (.s 4) <|
    .set 15 (.s 5) <|
    .set 16 (.s 0) <|
    .set 17 (.q 0 0) <|
    .set 18 (.q 0 1) <|
    .set 19 (.s 6) <|
    .set 20 (.s 7) <|
    .set 21 (.s 8) <|
    .set 22 (.s 8) <|
    .nil)
    (.set 9 (.k (.bool false)) <|
    .set 10 (.k (.tuple #[])) <|
    .set 11 (.k (.tuple #[])) <|
    .set 12 (.k (.tuple #[])) <|
    .set 13 (.k (.tuple #[])) <|
    .set 14 (.k (.tuple #[])) <|
    .set 15 (.k (.tuple #[])) <|
    .set 16 (.k (.tuple #[])) <|
    .set 17 (.k (.tuple #[])) <|
    .set 18 (.k (.tuple #[])) <|
    .set 19 (.k (.tuple #[])) <|
    .set 20 (.k (.tuple #[])) <|
    .set 21 (.k (.tuple #[])) <|
    .set 22 (.k (.bool false)) <|
    .nil) <|
  .ite (.s 22)
    (.op (.call fail) [.s 0, .k (.int .i64 1)] 23 <|
    .nil)
    (.nil) <|
  tkTail, [.direct]⟩

def TakeFn (P : Program) (f : FuncId) : Prop := ∀ (ok : Nat → Prop) (w : World) (R : Nat) (bv : Value) (l : Bs) (pos : Nat) (how : Int) (n : Nat) (K : Value → World → Prop), ¬ ok R → Sz ok w bv l → Row w R [bv, .int .i64 (pos : Int), .int .i64 how] → pos ≤ l.length → l.length ≤ 1048576 → n < 2147483648 →
  (how = 0 → pos + n ≤ l.length → ∀ v w', Keep [R] w w' → Row w' R [bv, .int .i64 ((pos + n : Nat) : Int), .int .i64 0] → Sz ok w' v ((l.drop pos).take n) → K v w') →
  (how = 0 → ¬ pos + n ≤ l.length → ∀ w', Keep [R] w w' → Row w' R [bv, .int .i64 (pos : Int), .int .i64 1] → K (.slice none 0 0) w') →
  (how ≠ 0 → ∀ w', Keep [R] w w' → Row w' R [bv, .int .i64 (pos : Int), .int .i64 how] → K (.slice none 0 0) w') → In.wp P (.call f) [ptr R, .int .i64 (n : Int)] w K

/-- A stretch within. -/
theorem sl_mid {ok : Nat → Prop} {w : World} {a : Option Addr} {l : Bs} {c pos n : Nat} (h : Sz ok w (.slice a l.length c) l) (hn : pos + n ≤ l.length) : Sz ok w (.slice (if c = pos then a else a.map (·.add (pos * 1))) n (c - pos)) ((l.drop pos).take n) := by
  rcases h with (⟨h1, h2⟩ | ⟨ad, c', h1, h2, h3⟩) | ⟨rfl, ad, c', h1⟩
  · simp only [Value.slice.injEq] at h1
    obtain ⟨rfl, h4, rfl⟩ := h1
    have hp : pos = 0 := by omega
    have hn0 : n = 0 := by omega
    subst hp hn0
    exact .inl (.inl ⟨by simp, by simp⟩)
  · simp only [Value.slice.injEq] at h1
    obtain ⟨rfl, _, rfl⟩ := h1
    by_cases hc : c = pos
    · have hl : l.length = pos := by omega
      have hn0 : n = 0 := by omega
      subst hn0
      refine .inl (.inr ⟨ad, c - pos, by simp [hc], by simp, ?_⟩)
      rw [List.take_zero]
      exact h3.nil
    · refine .inl (.inr ⟨ad.add pos, c - pos, by simp [hc]; omega, by simp; omega, ?_⟩)
      exact (h3.drop pos).take n
  · simp only [Value.slice.injEq] at h1
    obtain ⟨rfl, _, rfl⟩ := h1
    simp only [List.length_nil] at hn
    have hp : pos = 0 := by omega
    have hn0 : n = 0 := by omega
    subst hp hn0
    refine .inr ⟨by simp, ad, c - 0, ?_⟩
    congr 1
    split
    · rfl
    · simp [Addr.add]

theorem take_ok (hn : Named P) {f fail : FuncId} (hf : fnP P f 2 = some (p_take fail)) (hF : FailFn P fail) : TakeFn P f := by
  intro ok w R bv l pos how n K hR hsl hr hp hl hnb k1 k2 k3
  refine calls_of_np hn (vs := [ptr R, .int .i64 (n : Int)]) hf fun η hη => ?_
  have h0 : η 0 = ptr R := hη 0 (by simp)
  have h1 : η 1 = .int .i64 (n : Int) := hη 1 (by simp)
  obtain ⟨a, c, hv, hc⟩ := sz_slice hsl
  have kd := keep_drawn w
  have hr0 := hr.keep kd (by simp)
  have kd' : Keep [R] w { w with drawn := w.drawn + 1 } := kd.mono fun x hx _ => by cases hx
  -- the tail
  have bad : ∀ (η' : Nat → Value) (w1 : World) (h2 : Int), h2 ≠ 0 → η' 0 = ptr R → Row w1 R [bv, .int .i64 (pos : Int), .int .i64 h2] → K (.slice none 0 0) w1 → tkTail.wp P (postP [.direct] K) η' w1 := by
    intro η' w1 h2 hz z0 r1 hK
    refine np_op (vs := [.pointer (some ⟨R, 2, none⟩)]) (by simp [SV.val, z0, Addr.add]) (wp_load r1 rfl ?_)
    refine np_op (vs := [.int .i64 h2, .int .i64 0]) (by simp [SV.val, upd]) ⟨.i64, _, _, _, rfl, rfl, ?_⟩
    refine iT (by simp [SV.val, upd, hz]) ?_
    show K (pack _) w1
    simpa [pack, SV.val] using hK
  refine np_draw ?_
  refine ⟨⟨_, h0⟩, ?_⟩
  refine np_look (vs := [.pointer (some ⟨R, 2, none⟩)]) (by simp [SV.val, h0, Addr.add]) (wp_load hr0 rfl ⟨rfl, ?_⟩)
  refine np_look (vs := [.int .i64 how, .int .i64 0]) (by simp [SV.val, upd]) ⟨.i64, _, _, _, rfl, rfl, rfl, ?_⟩
  by_cases hz : how = 0
  · subst hz
    refine iT (by simp [SV.val, upd]) ?_
    refine np_look (vs := [ptr R]) (by simp [SV.val, upd, h0, add0]) (wp_load hr0 rfl ⟨rfl, ?_⟩)
    refine np_look (vs := [bv]) (by simp [SV.val, upd]) ⟨a, _, c, by rw [hv], rfl, ?_⟩
    refine np_look (vs := [.pointer (some ⟨R, 1, none⟩)]) (by simp [SV.val, upd, h0, Addr.add]) (wp_load hr0 rfl ⟨rfl, ?_⟩)
    refine np_look (vs := [goInt l.length, .int .i64 (pos : Int)]) (by simp [SV.val, upd]) ⟨.i64, _, _, _, rfl, rfl, rfl, ?_⟩
    rw [wrap64 ((l.length : Int) - pos) (by omega) (by omega)]
    refine np_look (vs := [.int .i64 (n : Int), .int .i64 ((l.length : Int) - pos)]) (by simp [SV.val, upd, h1]) ⟨.i64, _, _, _, rfl, rfl, rfl, ?_⟩
    by_cases hfit : pos + n ≤ l.length
    · refine iF (by simp [SV.val, upd]; omega) ?_
      show NP.wp P tkTail _ _ _
      refine np_op (vs := [.pointer (some ⟨R, 2, none⟩)]) (by simp [SV.val, upd, h0, Addr.add]) (wp_load hr0 rfl ?_)
      refine np_op (vs := [.int .i64 0, .int .i64 0]) (by simp [SV.val, upd]) ⟨.i64, _, _, _, rfl, rfl, ?_⟩
      refine iF (by simp [SV.val, upd]) ?_
      refine np_op (vs := [.pointer (some ⟨R, 1, none⟩)]) (by simp [SV.val, upd, h0, Addr.add]) (wp_load hr0 rfl ?_)
      refine np_op (vs := [.int .i64 (pos : Int), .int .i64 (n : Int)]) (by simp [SV.val, upd, h1]) ⟨.i64, _, _, _, rfl, rfl, ?_⟩
      rw [wrap64 _ (by omega) (by omega)]
      refine np_op (vs := [.pointer (some ⟨R, 1, none⟩), .int .i64 ((pos : Int) + n)]) (by simp [SV.val, upd, h0, Addr.add]) (wp_store hr0 (Fit.one rfl rfl) (by simp) fun w1 r1 q1 => ?_)
      have r1 : Row w1 R [bv, .int .i64 ((pos : Int) + n), .int .i64 0] := r1
      have kd1 := keep_drawn w1
      refine np_draw ?_
      have r2 := r1.keep kd1 (by simp)
      refine np_look (vs := [ptr R]) (by simp [SV.val, upd, h0, add0]) (wp_load r2 rfl ⟨rfl, ?_⟩)
      refine np_look (vs := [.pointer (some ⟨R, 1, none⟩)]) (by simp [SV.val, upd, h0, Addr.add]) (wp_load r2 rfl ⟨rfl, ?_⟩)
      refine np_look (vs := [.int .i64 ((pos : Int) + n), .int .i64 (n : Int)]) (by simp [SV.val, upd, h1]) ⟨.i64, _, _, _, rfl, rfl, rfl, ?_⟩
      have hsub : (pos : Int) + n - n = (pos : Int) := by omega
      rw [hsub, wrap64 (pos : Int) (by omega) (by omega)]
      refine np_look (vs := [.pointer (some ⟨R, 1, none⟩)]) (by simp [SV.val, upd, h0, Addr.add]) (wp_load r2 rfl ⟨rfl, ?_⟩)
      refine np_look (vs := [bv, .int .i64 (pos : Int), .int .i64 ((pos + n : Nat) : Int)]) (by simp [SV.val, upd]) ⟨a, l.length, c, _, by rw [hv], ?_⟩
      simp only [bnd, if_true, Bool.false_eq_true, if_false]
      refine ⟨.i64, pos, _, rfl, .i64, pos + n, _, rfl, rfl, by omega, by omega, Nat.le_refl _, trivial, ?_⟩
      have hk12 : Keep [R] w { w1 with drawn := w1.drawn + 1 } := (kd'.then q1).then (kd1.mono fun x hx _ => by cases hx)
      have hsl2 : Sz ok { w1 with drawn := w1.drawn + 1 } bv l := hsl.same (hk12.same fun x hx => by simp at hx; subst hx; exact hR)
      rw [hv] at hsl2
      have hmid := sl_mid (n := n) hsl2 hfit
      have hw : pos + n - pos = n := by omega
      have := k1 rfl hfit _ _ hk12 (by simpa using r2) hmid
      show K (pack _) _
      simpa [pack, SV.val, upd, hw] using this
    · refine iT (by simp [SV.val, upd]; omega) ?_
      refine np_op (vs := [ptr R, .int .i64 1]) (by simp [SV.val, upd, h0]) (hF _ R bv _ 0 1 _ hr0 fun u w1 q1 r1 => ?_)
      exact bad _ w1 1 (by decide) (by simp [upd, h0]) (by simpa using r1) (k2 rfl hfit w1 (kd'.then q1) (by simpa using r1))
  · refine iF (by simp [SV.val, upd, hz]) ?_
    refine iF (by simp [SV.val, upd]) ?_
    exact bad _ _ how hz (by simp [upd, h0]) hr0 (k3 hz _ kd' hr0)

def p_svarint (rv fail : FuncId) : FnP := ⟨.chk 0 <|
  .op .load [.q 0 2] 2 <|
  .op (.bin .neq) [.s 2, .k (.int .i64 0)] 3 <|
  .ite (.s 3)
    (.ret [.k (.int .i64 0)])
    (.nil) <|
  .draw <|
  .look .load [.q 0 0] 4 <|
  .look .load [.q 0 1] 5 <|
  .look (.sl 1 true false false) [.s 4, .s 5] 6 <|
  .op (.call rv) [.s 6, .s 1] 7 <|
  .keep (.sl 1 true false false) [.s 4, .s 5] 6 <|
  .keep .load [.q 0 1] 5 <|
  .keep .load [.q 0 0] 4 <|
  .look (.ex 0) [.s 7] 8 <|
  .look (.ex 1) [.s 7] 9 <|
  .look (.ex 2) [.s 7] 10 <|
  .op (.call fail) [.s 0, .s 10] 11 <|
  .op .load [.q 0 1] 12 <|
  .op (.bin .add) [.s 12, .s 9] 13 <|
  .op (.store 1) [.q 0 1, .s 13] 14 <|
  .ret [.s 8], [.direct]⟩

def SvFn (P : Program) (fn : FuncId) (bits m f : Nat) : Prop := ∀ (ok : Nat → Prop) (w : World) (R : Nat) (bv : Value) (l : Bs) (s : Rs Unit) (K : Value → World → Prop), ¬ ok R → Sz ok w bv l → l.length ≤ 1048576 → SRow w R bv l s →
  (∀ n w', Keep [R] w w' → SRow w' R bv l (sstep s (refV m f)) → (match s.bind fun _ r => refV m f r with | .fine x _ => n = x | _ => n = 0) → K (.int .i64 n) w') → In.wp P (.call fn) [ptr R, .int .i64 (bits : Int)] w K

theorem refN_suf (m : Nat) : ∀ (f : Nat) (bs : Bs) (n : Nat) (r : Bs), refN m f bs = .fine n r → r <:+ bs := by
  intro f bs n r h
  have := likeN m f bs
  rw [h] at this
  exact rdG_suffix m f bs n r this

theorem refV_suf {m f : Nat} {bs : Bs} {n : Int} {r : Bs} (h : refV m f bs = .fine n r) : r <:+ bs := by
  unfold refV at h
  cases hq : refN m f bs with
  | fine x r' => rw [hq] at h; cases h; exact refN_suf m f bs x _ hq
  | short => rw [hq] at h; cases h
  | loose => rw [hq] at h; cases h

theorem svarint_ok (hn : Named P) {fn rv fail : FuncId} {bits m f : Nat} (hf : fnP P fn 2 = some (p_svarint rv fail)) (hV : RvFn P rv bits m f) (hF : FailFn P fail) : SvFn P fn bits m f := by
  intro ok w R bv l s K hR hsl hll hs hk
  refine calls_of_np hn (vs := [ptr R, .int .i64 (bits : Int)]) hf fun η hη => ?_
  have h0 : η 0 = ptr R := hη 0 (by simp)
  have h1 : η 1 = .int .i64 (bits : Int) := hη 1 (by simp)
  obtain ⟨pos, how, hr, hp, hso⟩ := hs
  obtain ⟨a, c, hv, hc⟩ := sz_slice hsl
  refine ⟨⟨_, h0⟩, ?_⟩
  refine np_op (vs := [.pointer (some ⟨R, 2, none⟩)]) (by simp [SV.val, h0, Addr.add]) (wp_load hr rfl ?_)
  refine np_op (vs := [.int .i64 how, .int .i64 0]) (by simp [SV.val, upd]) ⟨.i64, _, _, _, rfl, rfl, ?_⟩
  by_cases hz : how = 0
  · subst hz
    refine iF (by simp [SV.val, upd]) ?_
    obtain ⟨u0, rfl⟩ : ∃ u, s = .fine u (l.drop pos) := by
      cases s with
      | fine u r => obtain ⟨_, rfl⟩ := hso; exact ⟨u, rfl⟩
      | short => cases hso
      | loose => cases hso
    have kd := keep_drawn w
    refine np_draw ?_
    generalize hw0 : ({ w with drawn := w.drawn + 1 } : World) = w0 at kd ⊢
    have r0 := hr.keep kd (by simp)
    have kd' : Keep [R] w w0 := kd.mono fun x hx _ => by cases hx
    have hsl0 : Sz ok w0 bv l := hsl.same (kd.same fun x hx => by cases hx)
    refine np_look (vs := [ptr R]) (by simp [SV.val, upd, h0, add0]) (wp_load r0 rfl ⟨rfl, ?_⟩)
    refine np_look (vs := [.pointer (some ⟨R, 1, none⟩)]) (by simp [SV.val, upd, h0, Addr.add]) (wp_load r0 rfl ⟨rfl, ?_⟩)
    have hslw : ∀ (K2 : Value → World → Prop), K2 (.slice (if c = pos then a else a.map (·.add (pos * 1))) (l.length - pos) (c - pos)) w0 → In.wp P (.sl 1 true false false) [bv, .int .i64 (pos : Int)] w0 K2 := fun K2 hK2 => by
      refine ⟨a, l.length, c, _, by rw [hv], ?_⟩
      simp only [bnd, if_true, Bool.false_eq_true, if_false]
      exact ⟨.i64, pos, [], rfl, rfl, hp, hc, Nat.le_refl _, hK2⟩
    refine np_look (vs := [bv, .int .i64 (pos : Int)]) (by simp [SV.val, upd]) (hslw _ ⟨rfl, ?_⟩)
    have hmid : Sz ok w0 (.slice (if c = pos then a else a.map (·.add (pos * 1))) (l.length - pos) (c - pos)) (l.drop pos) := by
      have := sl_mid (n := l.length - pos) (pos := pos) (by rw [hv] at hsl0; exact hsl0) (by omega)
      rwa [List.take_of_length_le (by simp)] at this
    refine np_op (vs := [.slice (if c = pos then a else a.map (·.add (pos * 1))) (l.length - pos) (c - pos), .int .i64 (bits : Int)]) (by simp [SV.val, upd, h1]) (hV ok w0 _ (l.drop pos) _ hmid (by simp; omega) fun n size how' hend => ?_)
    refine np_keep (vs := [bv, .int .i64 (pos : Int)]) (by simp [SV.val, upd]) (hslw _ ⟨by simp [upd], rfl⟩) ?_
    refine np_keep (vs := [.pointer (some ⟨R, 1, none⟩)]) (by simp [SV.val, upd, h0, Addr.add]) (wp_load r0 rfl ⟨by simp [upd], rfl⟩) ?_
    refine np_keep (vs := [ptr R]) (by simp [SV.val, upd, h0, add0]) (wp_load r0 rfl ⟨by simp [upd], rfl⟩) ?_
    refine np_look (vs := [.tuple #[.int .i64 n, .int .i64 size, .int .i64 how']]) (by simp [SV.val, upd]) ⟨_, _, rfl, rfl, rfl, ?_⟩
    refine np_look (vs := [.tuple #[.int .i64 n, .int .i64 size, .int .i64 how']]) (by simp [SV.val, upd]) ⟨_, _, rfl, rfl, rfl, ?_⟩
    refine np_look (vs := [.tuple #[.int .i64 n, .int .i64 size, .int .i64 how']]) (by simp [SV.val, upd]) ⟨_, _, rfl, rfl, rfl, ?_⟩
    refine np_op (vs := [ptr R, .int .i64 how']) (by simp [SV.val, upd, h0]) (hF _ R bv _ 0 how' _ r0 fun u w1 q1 r1 => ?_)
    rw [if_pos rfl] at r1
    have hend' := hend
    unfold VEnd at hend
    obtain ⟨sz, hsz, hszl⟩ : ∃ sz : Nat, size = (sz : Int) ∧ pos + sz ≤ l.length := by
      cases hq : refV m f (l.drop pos) with
      | fine x r =>
        rw [hq] at hend
        have := (refV_suf hq).length_le
        simp only [List.length_drop] at this hend
        exact ⟨_, hend.2.1, by omega⟩
      | short => rw [hq] at hend; exact ⟨0, hend.2.1, by omega⟩
      | loose => rw [hq] at hend; exact ⟨0, hend.2.1, by omega⟩
    subst hsz
    refine np_op (vs := [.pointer (some ⟨R, 1, none⟩)]) (by simp [SV.val, upd, h0, Addr.add]) (wp_load r1 rfl ?_)
    refine np_op (vs := [.int .i64 (pos : Int), .int .i64 (sz : Int)]) (by simp [SV.val, upd]) ⟨.i64, _, _, _, rfl, rfl, ?_⟩
    rw [wrap64 _ (by omega) (by omega)]
    refine np_op (vs := [.pointer (some ⟨R, 1, none⟩), .int .i64 ((pos : Int) + sz)]) (by simp [SV.val, upd, h0, Addr.add]) (wp_store r1 (Fit.one rfl rfl) (by simp) fun w2 r2 q2 => ?_)
    have r2 : Row w2 R [bv, .int .i64 ((pos : Int) + sz), .int .i64 how'] := r2
    have kk : Keep [R] w w2 := (kd'.then q1).then q2
    show K (pack _) w2
    have := hk n w2 kk ⟨pos + sz, how', by simpa using r2, hszl, ?_⟩ ?_
    · simpa [pack, SV.val, upd] using this
    · unfold sstep
      dsimp only [Rs.bind]
      cases hq : refV m f (l.drop pos) with
      | fine x r =>
        rw [hq] at hend
        refine ⟨hend.2.2, ?_⟩
        have hsuf := refV_suf hq
        have hle := hsuf.length_le
        have e := List.suffix_iff_eq_drop.1 hsuf
        rw [e, List.drop_drop]
        have h21 := hend.2.1
        simp only [List.length_drop] at hle h21 ⊢
        congr 1
        omega
      | short => rw [hq] at hend; exact hend.2.2
      | loose => rw [hq] at hend; exact hend.2.2
    · dsimp only [Rs.bind]
      cases hq : refV m f (l.drop pos) with
      | fine x r => rw [hq] at hend; exact hend.1
      | short => rw [hq] at hend; exact hend.1
      | loose => rw [hq] at hend; exact hend.1
  · refine iT (by simp [SV.val, upd, hz]) ?_
    show K (pack _) w
    have := hk 0 w (Keep.refl _ _) ⟨pos, how, hr, hp, ?_⟩ ?_
    · simpa [pack, SV.val] using this
    · cases s with
      | fine u r => exact (hz hso.1).elim
      | short => exact hso
      | loose => exact hso
    · cases s with
      | fine u r => exact (hz hso.1).elim
      | short => rfl
      | loose => rfl

end
end Go.Ar

/- The form's reader: octets, texts, headers. -/
namespace Go.Ar
open Go.Lx Go.Nx Go.Km Go.Mx Go.Kb

set_option linter.unusedSimpArgs false
set_option linter.unusedVariables false

section
variable {P : Program}

def fxBody : NP := .op (.bin .lss) [.s 5, .s 3] 6 <|
    .ite (.s 6)
      (.nil)
      (.exit) <|
    .op (.ia 1) [.s 2, .s 5] 7 <|
    .chk 7 <|
    .op .load [.q 7 0] 8 <|
    .op (.bin .eql) [.s 5, .k (.int .i64 0)] 9 <|
    .ite (.s 9)
      (.op (.cv .i8) [.s 8] 10 <|
      .op (.cv .i64) [.s 10] 11 <|
      .set 15 (.s 11) <|
      .set 16 (.s 11) <|
      .nil)
      (.op (.sh .shl) [.s 4, .k (.int .u64 8)] 12 <|
      .op (.cv .i64) [.s 8] 13 <|
      .op (.bin .or) [.s 12, .s 13] 14 <|
      .set 15 (.s 14) <|
      .set 16 (.s 14) <|
      .nil) <|
    .op (.bin .add) [.s 5, .k (.int .i64 1)] 17 <|
    .set 18 (.s 16) <|
    .set 19 (.s 17) <|
    .set 4 (.s 18) <|
    .set 5 (.s 19) <|
    .nil

def p_fixed (take : FuncId) : FnP := ⟨.op (.call take) [.s 0, .s 1] 2 <|
  .op .len [.s 2] 3 <|
  .set 4 (.k (.int .i64 0)) <|
  .set 5 (.k (.int .i64 0)) <|
  .loop fxBody <|
  .ret [.s 4], [.direct]⟩

def SfFn (P : Program) (fn : FuncId) : Prop := ∀ (ok : Nat → Prop) (w : World) (R : Nat) (bv : Value) (l : Bs) (s : Rs Unit) (K : Value → World → Prop), ¬ ok R → Sz ok w bv l → l.length ≤ 1048576 → SRow w R bv l s →
  (∀ n w', Keep [R] w w' → SRow w' R bv l (sstep s refI8) → (match s.bind fun _ r => refI8 r with | .fine x _ => n = x | _ => n = 0) → K (.int .i64 n) w') → In.wp P (.call fn) [ptr R, .int .i64 1] w K

theorem fx_done {η : Nat → Value} {w : World} {K : Value → World → Prop} {N : Nat} (h3 : η 3 = .int .i64 (N : Int)) (h5 : η 5 = .int .i64 (N : Int)) {n : Int} (h4 : η 4 = .int .i64 n) (hk : K (.int .i64 n) w) (r : Nat) (I : Nat → (Nat → Value) → World → Prop) :
    fxBody.wp P (fun o η w => match o with | .nrm => (∃ j, j < r ∧ I j η w) | .ext => (NP.ret [.s 4]).wp P (postP [.direct] K) η w | o => postP [.direct] K o η w) η w := by
  refine np_op (vs := [.int .i64 (N : Int), .int .i64 (N : Int)]) (by simp [SV.val, h3, h5]) ⟨.i64, _, _, _, rfl, rfl, ?_⟩
  refine iF (by simp [SV.val, upd]) ?_
  show K (pack [_]) w
  simpa [SV.val, upd, pack, h4] using hk

theorem refI8_cons (b : UInt8) (t : Bs) : refI8 (b :: t) = .fine (sgn 8 b.toNat) t := by simp [refI8, rdI, rdU, cut, ofBe]

theorem fixed_ok (hn : Named P) {fn take : FuncId} (hf : fnP P fn 2 = some (p_fixed take)) (hT : TakeFn P take) : SfFn P fn := by
  intro ok w R bv l s K hR hsl hll hs hk
  refine calls_of_np hn (vs := [ptr R, .int .i64 1]) hf fun η hη => ?_
  have h0 : η 0 = ptr R := hη 0 (by simp)
  have h1 : η 1 = .int .i64 1 := hη 1 (by simp)
  obtain ⟨pos, how, hr, hp, hso⟩ := hs
  have none' : ∀ (w' : World) (how' : Int) (s' : Rs Unit), Keep [R] w w' → Row w' R [bv, .int .i64 (pos : Int), .int .i64 how'] → SOk l pos how' s' → sstep s refI8 = s' → (match s.bind fun _ r => refI8 r with | .fine x _ => (0 : Int) = x | _ => (0 : Int) = 0) →
      NP.wp P (.op .len [.s 2] 3 <| .set 4 (.k (.int .i64 0)) <| .set 5 (.k (.int .i64 0)) <| .loop fxBody <| .ret [.s 4]) (postP [.direct] K) (upd η 2 (.slice none 0 0)) w' := by
    intro w' how' s' kk hr' hso' hst hval
    refine np_op (vs := [.slice none 0 0]) (by simp [SV.val, upd]) ⟨_, _, _, rfl, ?_⟩
    refine lp (fun r η' w1 => w1 = w' ∧ η' 3 = .int .i64 ((0 : Nat) : Int) ∧ η' 5 = .int .i64 ((0 : Nat) : Int) ∧ η' 4 = .int .i64 0) 0 ⟨rfl, by simp [upd, goInt], by simp [upd, SV.val], by simp [upd, SV.val]⟩ ?_
    rintro r η' w1 ⟨rfl, z3, z5, z4⟩
    refine fx_done z3 z5 z4 (hk 0 w1 kk ⟨pos, how', hr', hp, ?_⟩ hval) r _
    rw [hst]; exact hso'
  refine np_op (vs := [ptr R, .int .i64 ((1 : Nat) : Int)]) (by simp [SV.val, h0, h1]) (hT ok w R bv l pos how 1 _ hR hsl hr hp hll (by omega) (fun hz hfit v w' kk hr' hv => ?_) (fun hz hfit w' kk hr' => ?_) (fun hz w' kk hr' => ?_))
  · subst hz
    obtain ⟨u0, rfl⟩ : ∃ u, s = .fine u (l.drop pos) := by
      cases s with
      | fine u r => obtain ⟨_, rfl⟩ := hso; exact ⟨u, rfl⟩
      | short => cases hso
      | loose => cases hso
    have hlt : pos < l.length := by omega
    have hd : l.drop pos = l[pos] :: l.drop (pos + 1) := List.drop_eq_getElem_cons hlt
    have ht : (l.drop pos).take 1 = [l[pos]] := by rw [hd]; rfl
    rw [ht] at hv
    obtain ⟨a, c, hv1, hc, hb⟩ := sz_some hv (by simp)
    have hcell := hb.2.2 0 (by simp)
    rw [add0] at hcell
    have hb8 := l[pos].toNat_lt
    have href : refI8 (l.drop pos) = .fine (sgn 8 l[pos].toNat) (l.drop (pos + 1)) := by
      rw [hd, refI8_cons]
    refine np_op (vs := [v]) (by simp [SV.val, upd]) ⟨_, _, _, by rw [hv1], ?_⟩
    refine lp (fun r η' w1 => w1 = w' ∧ η' 3 = .int .i64 ((1 : Nat) : Int) ∧ η' 2 = v ∧ ((r = 1 ∧ η' 5 = .int .i64 0) ∨ (r = 0 ∧ η' 5 = .int .i64 ((1 : Nat) : Int) ∧ η' 4 = .int .i64 (sgn 8 l[pos].toNat)))) 1 ⟨rfl, by simp [upd, goInt], by simp [upd], .inl ⟨rfl, by simp [upd, SV.val]⟩⟩ ?_
    rintro r η' w1 ⟨rfl, z3, z2, ⟨rfl, z5⟩ | ⟨rfl, z5, z4⟩⟩
    · refine np_op (vs := [.int .i64 0, .int .i64 ((1 : Nat) : Int)]) (by simp [SV.val, z3, z5]) ⟨.i64, _, _, _, rfl, rfl, ?_⟩
      refine iT (by simp [SV.val, upd]) ?_
      refine np_op (vs := [v, .int .i64 ((0 : Nat) : Int)]) (by simp [SV.val, upd, z2, z5]) ⟨a, _, c, .i64, 0, by rw [hv1], by simp, ?_⟩
      rw [Nat.zero_mul, add0]
      refine ⟨⟨_, by simp only [upd]; rfl⟩, ?_⟩
      refine np_op (vs := [.pointer (some a)]) (by simp [SV.val, upd, add0]) ⟨_, _, rfl, hcell, ?_⟩
      refine np_op (vs := [.int .i64 0, .int .i64 0]) (by simp [SV.val, upd, z5]) ⟨.i64, _, _, _, rfl, rfl, ?_⟩
      refine iT (by simp [SV.val, upd]) ?_
      refine np_op (vs := [u8 l[pos]]) (by simp [SV.val, upd]) ⟨.u8, _, rfl, ?_⟩
      have hw8 : IntKind.i8.wrap (l[pos].toNat : Int) = sgn 8 l[pos].toNat := wrap_sgn .i8 rfl _ (by simpa [IntKind.bits] using hb8)
      rw [hw8]
      have hsg : -128 ≤ sgn 8 l[pos].toNat ∧ sgn 8 l[pos].toNat < 128 := by unfold sgn; split <;> simp at * <;> omega
      refine np_op (vs := [.int .i8 (sgn 8 l[pos].toNat)]) (by simp [SV.val, upd]) ⟨.i8, _, rfl, ?_⟩
      rw [wrap64 _ (by omega) (by omega)]
      show NP.wp P (.op (.bin .add) [.s 5, .k (.int .i64 1)] 17 _) _ _ _
      refine np_op (vs := [.int .i64 0, .int .i64 1]) (by simp [SV.val, upd, z5]) ⟨.i64, _, _, _, rfl, rfl, ?_⟩
      exact ⟨0, by omega, rfl, by simp [upd, z3], by simp [upd, z2], .inr ⟨rfl, by simp [upd, SV.val]; decide, by simp [upd, SV.val]⟩⟩
    · refine fx_done z3 z5 z4 (hk _ w1 kk ⟨pos + 1, 0, by simpa using hr', hfit, ?_⟩ ?_) 0 _
      · unfold sstep; dsimp only [Rs.bind]; rw [href]; exact ⟨rfl, rfl⟩
      · dsimp only [Rs.bind]; rw [href]
  · subst hz
    obtain ⟨u0, rfl⟩ : ∃ u, s = .fine u (l.drop pos) := by
      cases s with
      | fine u r => obtain ⟨_, rfl⟩ := hso; exact ⟨u, rfl⟩
      | short => cases hso
      | loose => cases hso
    have hpe : l.length ≤ pos := by omega
    have href : refI8 (l.drop pos) = .short := by
      rw [List.drop_of_length_le hpe]; rfl
    exact none' w' 1 .short kk hr' rfl (by unfold sstep; dsimp only [Rs.bind]; rw [href]; rfl) (by dsimp only [Rs.bind]; rw [href])
  · cases s with
    | fine u r => exact (hz hso.1).elim
    | short => exact none' w' how .short kk hr' hso rfl rfl
    | loose => exact none' w' how .loose kk hr' hso rfl rfl

/-! What fails. -/
def failS (s : Rs Unit) (h : Int) : Rs Unit := match s with
  | .fine _ _ => if h = 1 then .short else .loose
  | s => s

theorem srow_fail {fail : FuncId} (hF : FailFn P fail) {w : World} {R : Nat} {bv : Value} {l : Bs} {s : Rs Unit} {h : Int} {K : Value → World → Prop} (hh : h = 1 ∨ h = 3) (hs : SRow w R bv l s) (hk : ∀ u w', Keep [R] w w' → SRow w' R bv l (failS s h) → K u w') : In.wp P (.call fail) [ptr R, .int .i64 h] w K := by
  obtain ⟨pos, how, hr, hp, hso⟩ := hs
  refine hF w R bv _ how h K hr fun u w' kk hr' => hk u w' kk ⟨pos, _, hr', hp, ?_⟩
  cases s with
  | fine u r =>
    rw [if_pos hso.1]
    unfold failS
    rcases hh with rfl | rfl
    · rfl
    · rfl
  | short =>
    have : how = 1 := hso
    rw [if_neg (by omega)]; exact hso
  | loose =>
    have : how = 3 := hso
    rw [if_neg (by omega)]; exact hso

def ocTail (fail take : FuncId) : NP := .op (.bin .lss) [.s 1, .k (.int .i64 0)] 15 <|
  .ite (.s 15)
    (.op (.call fail) [.s 0, .k (.int .i64 3)] 16 <|
    .nil)
    (.nil) <|
  .chk 0 <|
  .op .load [.q 0 0] 17 <|
  .op .len [.s 17] 18 <|
  .op (.bin .gtr) [.s 1, .s 18] 19 <|
  .ite (.s 19)
    (.op (.call fail) [.s 0, .k (.int .i64 1)] 20 <|
    .nil)
    (.nil) <|
  .op .load [.q 0 2] 21 <|
  .op (.bin .neq) [.s 21, .k (.int .i64 0)] 22 <|
  .ite (.s 22)
    (.op (.lit [.bool false, .slice none 0 0] []) [] 23 <|
    .op (.store 2) [.q 2 0, .s 23] 24 <|
    .ret [.q 2 0])
    (.nil) <|
  .op (.call take) [.s 0, .s 1] 25 <|
  .op (.lit [.bool false, .slice none 0 0] [1]) [.s 25] 26 <|
  .op (.store 2) [.q 2 0, .s 26] 27 <|
  .ret [.q 2 0]

def p_soct (fail take : FuncId) : FnP := ⟨.op (.alloc [.bool false, .slice none 0 0]) [] 2 <|
  .chk 2 <|
  .op (.bin .eql) [.s 1, .k (.int .i64 (-1))] 3 <|
  .ite (.s 3)
    (.chk 0 <|
    .op .load [.q 0 2] 4 <|
    .op (.bin .eql) [.s 4, .k (.int .i64 0)] 5 <|
    .set 6 (.k (.bool true)) <|
    .set 7 (.s 0) <|
    .set 8 (.q 0 0) <|
    .set 9 (.q 0 2) <|
    .set 10 (.s 4) <|
    .set 11 (.s 5) <|
    .set 12 (.s 5) <|
    .nil)
    (.set 6 (.k (.bool false)) <|
    .set 7 (.k (.tuple #[])) <|
    .set 8 (.k (.tuple #[])) <|
    .set 9 (.k (.tuple #[])) <|
    .set 10 (.k (.tuple #[])) <|
    .set 11 (.k (.tuple #[])) <|
    .set 12 (.k (.bool false)) <|
    .nil) <|
  .ite (.s 12)
    (.op (.lit [.bool false, .slice none 0 0] [0]) [.k (.bool true)] 13 <|
    .op (.store 2) [.q 2 0, .s 13] 14 <|
    .ret [.q 2 0])
    (.nil) <|
  ocTail fail take, [.cells 2]⟩

def SoFn (P : Program) (fn : FuncId) : Prop := ∀ (ok : Nat → Prop) (w : World) (R : Nat) (bv : Value) (l : Bs) (s : Rs Unit) (n : Int) (K : Value → World → Prop), ¬ ok R → (∀ k, ok k → k < w.heap.size) → Sz ok w bv l → l.length ≤ 1048576 → SRow w R bv l s → -2147483648 ≤ n → n < 2147483648 →
  (∀ o d w', Keep [R] w w' → SRow w' R bv l (sstep s (refO n)) → Sz ok w' d (o.getD []) → (∀ x r, (s.bind fun _ r => refO n r) = .fine x r → o = x) → K (.agg #[.bool o.isNone, d]) w') → In.wp P (.call fn) [ptr R, .int .i64 n] w K

theorem soct_ok (hn : Named P) {fn fail take : FuncId} (hf : fnP P fn 2 = some (p_soct fail take)) (hF : FailFn P fail) (hT : TakeFn P take) : SoFn P fn := by
  intro ok w R bv l s n K hR hokw hsl hll hs hn1 hn2 hk
  refine calls_of_np hn (vs := [ptr R, .int .i64 n]) hf fun η hη => ?_
  have h0 : η 0 = ptr R := hη 0 (by simp)
  have h1 : η 1 = .int .i64 n := hη 1 (by simp)
  have hRlt : R < w.heap.size := by obtain ⟨_, _, hr, _⟩ := hs; exact hr.lt
  obtain ⟨a, c, hv, hc⟩ := sz_slice hsl
  refine np_op (vs := []) rfl (wp_alloc fun b w1 r1 hb k1 => ?_)
  refine ⟨⟨_, by simp only [upd]; rfl⟩, ?_⟩
  have hbR : b ≠ R := by omega
  have hs1 := hs.keep k1 (by simp)
  have k1' : Keep [R] w w1 := k1.mono fun x hx _ => by cases hx
  -- the end: what is stored
  have fin : ∀ {η' : Nat → Value} {w2 : World} {x : SV} {j m : Nat} {d : Value} {o : Option Bs} {Q : Post}, Q = postP [.cells 2] K → η' 2 = ptr b → η' j = .agg #[.bool o.isNone, d] → Row w2 b [.bool false, .slice none 0 0] → One d → Keep [R] w w2 → SRow w2 R bv l (sstep s (refO n)) → Sz ok w2 d (o.getD []) → (∀ x r, (s.bind fun _ r => refO n r) = .fine x r → o = x) →
      NP.wp P (.op (.store 2) [.q 2 0, .s j] m <| .ret [.q 2 0]) Q η' w2 ∨ m = 2 := by
    intro η' w2 x j m d o Q hQ z2 zj rb hd kk hsr hsd ho
    by_cases hm : m = 2
    · exact .inr hm
    refine .inl ?_
    subst hQ
    refine np_op (vs := [ptr b, .agg #[.bool o.isNone, d]]) (by simp [SV.val, z2, zj, add0]) (wp_store rb (n := 2) ⟨rfl, by have := hd.2; simp only [Value.cells]; simp [this]; rfl⟩ (by simp) fun w3 r3 k3 => ?_)
    have r3 : Row w3 b [.bool o.isNone, d] := r3
    refine ⟨b, 0, [.bool o.isNone, d], by simp [SV.val, upd, z2, add0, show (2 : Nat) ≠ m from fun h => hm h.symm], by simpa using r3.range 0 2, rfl, ?_⟩
    have kk3 : Keep [R] w w3 := kk.trans k3 fun x hx hlt => by simp at hx; omega
    have := hk o d w3 kk3 (hsr.keep k3 (by simpa using hbR.symm)) (hsd.same (k3.same fun x hx hh => by simp at hx; subst hx; have := hokw _ hh; omega)) ho
    show K (pack _) w3
    simpa [pack] using this
  -- behind the first test
  have tail : ∀ η' : Nat → Value, η' 0 = ptr R → η' 1 = .int .i64 n → η' 2 = ptr b → ((∃ u r, s = .fine u r) → n ≠ -1) → (ocTail fail take).wp P (postP [.cells 2] K) η' w1 := by
    intro η' z0 z1 z2 hne
    refine np_op (vs := [.int .i64 n, .int .i64 0]) (by simp [SV.val, z1]) ⟨.i64, _, _, _, rfl, rfl, ?_⟩
    -- behind the second
    have tail2 : ∀ (η2 : Nat → Value) (w2 : World) (s2 : Rs Unit), η2 0 = ptr R → η2 1 = .int .i64 n → η2 2 = ptr b → Row w2 b [.bool false, .slice none 0 0] → Keep [R] w w2 → SRow w2 R bv l s2 → s2 = (if n < 0 then failS s 3 else s) →
        NP.wp P (.chk 0 <| .op .load [.q 0 0] 17 <| .op .len [.s 17] 18 <| .op (.bin .gtr) [.s 1, .s 18] 19 <|
          .ite (.s 19) (.op (.call fail) [.s 0, .k (.int .i64 1)] 20 .nil) .nil <|
          .op .load [.q 0 2] 21 <| .op (.bin .neq) [.s 21, .k (.int .i64 0)] 22 <|
          .ite (.s 22) (.op (.lit [.bool false, .slice none 0 0] []) [] 23 <| .op (.store 2) [.q 2 0, .s 23] 24 <| .ret [.q 2 0]) .nil <|
          .op (.call take) [.s 0, .s 1] 25 <| .op (.lit [.bool false, .slice none 0 0] [1]) [.s 25] 26 <| .op (.store 2) [.q 2 0, .s 26] 27 <| .ret [.q 2 0]) (postP [.cells 2] K) η2 w2 := by
      intro η2 w2 s2 y0 y1 y2 rb2 kk2 hs2 e2
      obtain ⟨pos, how, hr, hp, hso⟩ := hs2
      refine ⟨⟨_, y0⟩, ?_⟩
      refine np_op (vs := [ptr R]) (by simp [SV.val, y0, add0]) (wp_load hr rfl ?_)
      refine np_op (vs := [bv]) (by simp [SV.val, upd]) ⟨a, _, c, by rw [hv], ?_⟩
      refine np_op (vs := [.int .i64 n, goInt l.length]) (by simp [SV.val, upd, y1]) ⟨.i64, _, _, _, rfl, rfl, ?_⟩
      -- behind the third
      have tail3 : ∀ (η3 : Nat → Value) (w3 : World) (s3 : Rs Unit), η3 0 = ptr R → η3 1 = .int .i64 n → η3 2 = ptr b → Row w3 b [.bool false, .slice none 0 0] → Keep [R] w w3 → SRow w3 R bv l s3 → s3 = (if n > (l.length : Int) then failS s2 1 else s2) →
          NP.wp P (.op .load [.q 0 2] 21 <| .op (.bin .neq) [.s 21, .k (.int .i64 0)] 22 <|
            .ite (.s 22) (.op (.lit [.bool false, .slice none 0 0] []) [] 23 <| .op (.store 2) [.q 2 0, .s 23] 24 <| .ret [.q 2 0]) .nil <|
            .op (.call take) [.s 0, .s 1] 25 <| .op (.lit [.bool false, .slice none 0 0] [1]) [.s 25] 26 <| .op (.store 2) [.q 2 0, .s 26] 27 <| .ret [.q 2 0]) (postP [.cells 2] K) η3 w3 := by
        intro η3 w3 s3 x0 x1 x2 rb3 kk3 hs3 e3
        obtain ⟨pos3, how3, hr3, hp3, hso3⟩ := hs3
        refine np_op (vs := [.pointer (some ⟨R, 2, none⟩)]) (by simp [SV.val, x0, Addr.add]) (wp_load hr3 rfl ?_)
        refine np_op (vs := [.int .i64 how3, .int .i64 0]) (by simp [SV.val, upd]) ⟨.i64, _, _, _, rfl, rfl, ?_⟩
        by_cases hz : how3 = 0
        · refine iF (by simp [SV.val, upd, hz]) ?_
          subst hz
          -- all is well so far
          have hfine : s3 = .fine () (l.drop pos3) := by
            cases s3 with
            | fine u r => obtain ⟨_, rfl⟩ := hso3; rfl
            | short => cases hso3
            | loose => cases hso3
          have hsf : s = .fine () (l.drop pos3) ∧ 0 ≤ n ∧ n ≤ (l.length : Int) := by
            by_cases hgt : n > (l.length : Int)
            · rw [if_pos hgt] at e3
              rw [e3] at hfine
              cases s2 with
              | fine u r => simp [failS] at hfine
              | short => cases hfine
              | loose => cases hfine
            · rw [if_neg hgt] at e3
              by_cases hlt : n < 0
              · rw [if_pos hlt] at e2
                rw [e3, e2] at hfine
                cases s with
                | fine u r => simp [failS] at hfine
                | short => cases hfine
                | loose => cases hfine
              · rw [if_neg hlt] at e2
                exact ⟨by rw [← e2, ← e3]; exact hfine, by omega, by omega⟩
          obtain ⟨hsf, hn0, hnl⟩ := hsf
          obtain ⟨N, rfl⟩ := Int.eq_ofNat_of_zero_le hn0
          have hsl3 : Sz ok w3 bv l := hsl.same (kk3.same fun x hx hh => by simp at hx; subst hx; exact hR hh)
          refine np_op (vs := [ptr R, .int .i64 (N : Int)]) (by simp [SV.val, upd, x0, x1]) (hT ok w3 R bv l pos3 0 N _ hR hsl3 hr3 hp3 hll (by omega) (fun _ hfit v w4 k4 hr4 hv4 => ?_) (fun _ hfit w4 k4 hr4 => ?_) (fun hne' => (hne' rfl).elim))
          · have hv1 := oneZ hv4
            refine np_op (vs := [v]) (by simp [SV.val, upd]) ⟨rfl, fun v' hv' => by simp at hv'; subst hv'; exact ⟨by rw [hv1.1]; rfl, hv1.list⟩, ?_⟩
            have hdl : ((l.drop pos3).take N).length = N := by simp; omega
            have href : refO (N : Int) (l.drop pos3) = .fine (some ((l.drop pos3).take N)) ((l.drop pos3).drop N) := by
              unfold refO
              rw [if_neg (by omega), if_neg (by omega), if_neg (by simp; omega), Int.toNat_natCast]
            refine (fin (x := .s 0) (o := some ((l.drop pos3).take N)) (d := v) rfl (by simp [upd, x2]) (by simp [upd, putAll]) (rb3.keep k4 (by simpa using hbR)) hv1 (kk3.then k4) ⟨pos3 + N, 0, hr4, hfit, ?_⟩ hv4 ?_).resolve_right (by omega)
            · rw [hsf]; unfold sstep; dsimp only [Rs.bind]; rw [href]; exact ⟨rfl, by simp [List.drop_drop]⟩
            · rw [hsf]; dsimp only [Rs.bind]; rw [href]; intro x r e; cases e; rfl
          · refine np_op (vs := [.slice none 0 0]) (by simp [SV.val, upd]) ⟨rfl, fun v' hv' => by simp at hv'; subst hv'; exact ⟨rfl, rfl⟩, ?_⟩
            have href : refO (N : Int) (l.drop pos3) = .short := by
              unfold refO
              rw [if_neg (by omega), if_neg (by omega), if_pos (by simp; omega)]
            refine (fin (x := .s 0) (o := some []) (d := .slice none 0 0) rfl (by simp [upd, x2]) (by simp [upd, putAll]) (rb3.keep k4 (by simpa using hbR)) ⟨rfl, rfl⟩ (kk3.then k4) ⟨pos3, 1, hr4, hp3, ?_⟩ nilZ ?_).resolve_right (by omega)
            · rw [hsf]; unfold sstep; dsimp only [Rs.bind]; rw [href]; rfl
            · rw [hsf]; dsimp only [Rs.bind]; rw [href]; intro x r e; cases e
        · refine iT (by simp [SV.val, upd, hz]) ?_
          refine np_op (vs := []) rfl ⟨rfl, fun v' hv' => by simp at hv', ?_⟩
          have hst : sstep s (refO n) = s3 ∧ ∀ x r, (s.bind fun _ r => refO n r) = .fine x r → (some [] : Option Bs) = x := by
            cases s with
            | short =>
              have : s3 = .short := by rw [e3, e2]; split <;> split <;> rfl
              exact ⟨this.symm, fun x r e => by cases e⟩
            | loose =>
              have : s3 = .loose := by rw [e3, e2]; split <;> split <;> rfl
              exact ⟨this.symm, fun x r e => by cases e⟩
            | fine u r =>
              have hnm := hne ⟨u, r, rfl⟩
              by_cases hlt : n < 0
              · have hgt : ¬ n > (l.length : Int) := by omega
                rw [if_neg hgt, e2, if_pos hlt] at e3
                have href : refO n r = .loose := by unfold refO; rw [if_neg hnm, if_pos hlt]
                refine ⟨by rw [e3]; unfold sstep; dsimp only [Rs.bind]; rw [href]; rfl, fun x r' e => ?_⟩
                dsimp only [Rs.bind] at e; rw [href] at e; cases e
              · rw [if_neg hlt] at e2
                by_cases hgt : n > (l.length : Int)
                · rw [if_pos hgt, e2] at e3
                  have hrl : r.length ≤ l.length := by
                    subst e2
                    obtain ⟨_, hr'⟩ := hso
                    rw [hr']; simp
                  have href : refO n r = .short := by unfold refO; rw [if_neg hnm, if_neg hlt, if_pos (by omega)]
                  refine ⟨by rw [e3]; unfold sstep; dsimp only [Rs.bind]; rw [href]; rfl, fun x r' e => ?_⟩
                  dsimp only [Rs.bind] at e; rw [href] at e; cases e
                · rw [if_neg hgt, e2] at e3
                  subst e3
                  exact (hz hso3.1).elim
          refine (fin (x := .s 0) (o := some []) (d := .slice none 0 0) rfl (by simp [upd, x2]) (by simp [upd, putAll]) rb3 ⟨rfl, rfl⟩ kk3 ?_ nilZ hst.2).resolve_right (by omega)
          rw [hst.1]
          exact ⟨pos3, how3, hr3, hp3, hso3⟩
      by_cases hgt : n > (l.length : Int)
      · refine iT (by simp [SV.val, upd, goInt]; omega) ?_
        refine np_op (vs := [ptr R, .int .i64 1]) (by simp [SV.val, upd, y0]) (srow_fail hF (.inl rfl) ⟨pos, how, hr, hp, hso⟩ fun u w3 k3 hs3 => ?_)
        exact tail3 _ w3 _ (by simp [upd, y0]) (by simp [upd, y1]) (by simp [upd, y2]) (rb2.keep k3 (by simpa using hbR)) (kk2.then k3) hs3 (by rw [if_pos hgt])
      · refine iF (by simp [SV.val, upd, goInt]; omega) ?_
        exact tail3 _ w2 s2 (by simp [upd, y0]) (by simp [upd, y1]) (by simp [upd, y2]) rb2 kk2 ⟨pos, how, hr, hp, hso⟩ (by rw [if_neg hgt])
    by_cases hlt : n < 0
    · refine iT (by simp [SV.val, upd]; omega) ?_
      refine np_op (vs := [ptr R, .int .i64 3]) (by simp [SV.val, upd, z0]) (srow_fail hF (.inr rfl) hs1 fun u w2 k2 hs2 => ?_)
      exact tail2 _ w2 _ (by simp [upd, z0]) (by simp [upd, z1]) (by simp [upd, z2]) (r1.keep k2 (by simpa using hbR)) (k1'.then k2) hs2 (by rw [if_pos hlt])
    · refine iF (by simp [SV.val, upd]; omega) ?_
      exact tail2 _ w1 s (by simp [upd, z0]) (by simp [upd, z1]) (by simp [upd, z2]) r1 k1' hs1 (by rw [if_neg hlt])
  refine np_op (vs := [.int .i64 n, .int .i64 (-1)]) (by simp [SV.val, upd, h1]) ⟨.i64, _, _, _, rfl, rfl, ?_⟩
  by_cases hm : n = -1
  · refine iT (by simp [SV.val, upd, hm]) ?_
    obtain ⟨pos, how, hr, hp, hso⟩ := id hs1
    refine ⟨⟨⟨R, 0, none⟩, by simp [upd, h0]⟩, ?_⟩
    refine np_op (vs := [.pointer (some ⟨R, 2, none⟩)]) (by simp [SV.val, upd, h0, Addr.add]) (wp_load hr rfl ?_)
    refine np_op (vs := [.int .i64 how, .int .i64 0]) (by simp [SV.val, upd]) ⟨.i64, _, _, _, rfl, rfl, ?_⟩
    by_cases hz : how = 0
    · refine iT (by simp [SV.val, upd, hz]) ?_
      refine np_op (vs := [.bool true]) (by simp [SV.val]) ⟨rfl, fun v' hv' => by simp at hv'; subst hv'; exact ⟨rfl, rfl⟩, ?_⟩
      obtain ⟨u0, r0, rfl⟩ : ∃ u r, s = .fine u r := by
        cases s with
        | fine u r => exact ⟨u, r, rfl⟩
        | short => have : how = 1 := hso; omega
        | loose => have : how = 3 := hso; omega
      have href : refO n r0 = .fine none r0 := by unfold refO; rw [if_pos hm]
      refine (fin (x := .s 0) (o := none) (d := .slice none 0 0) rfl (by simp [upd]) (by simp [upd, putAll]) r1 ⟨rfl, rfl⟩ k1' ?_ nilZ ?_).resolve_right (by omega)
      · unfold sstep; dsimp only [Rs.bind]; rw [href]; exact ⟨pos, how, hr, hp, hso⟩
      · dsimp only [Rs.bind]; rw [href]; intro x r e; cases e; rfl
    · refine iF (by simp [SV.val, upd, hz]) ?_
      refine tail _ (by simp [upd, h0]) (by simp [upd, h1]) (by simp [upd]) (fun ⟨u, r, e⟩ => ?_)
      subst e
      exact (hz hso.1).elim
  · refine iF (by simp [SV.val, upd, hm]) ?_
    refine iF (by simp [SV.val, upd]) ?_
    exact tail _ (by simp [upd, h0]) (by simp [upd, h1]) (by simp [upd]) (fun _ => hm)

end
end Go.Ar

/- The form's reader: texts, headers; what a record's reading comes to, plain. -/
namespace Go.Ar
open Go.Lx Go.Nx Go.Km Go.Mx Go.Kb

set_option linter.unusedSimpArgs false
set_option linter.unusedVariables false

/-- Where the reader reads. -/
structure SE (ok : Nat → Prop) (w : World) (R : Nat) (bv : Value) (l : Bs) : Prop where
  nR : ¬ ok R
  low : ∀ k, ok k → k < w.heap.size
  sl : Sz ok w bv l
  len : l.length ≤ 1048576

theorem SE.keep {ok : Nat → Prop} {w w' : World} {R : Nat} {bv : Value} {l : Bs} (h : SE ok w R bv l) {A : List Nat} (k : Keep A w w') (hA : ∀ x ∈ A, ¬ ok x) : SE ok w' R bv l :=
  ⟨h.nR, fun q hq => Nat.lt_of_lt_of_le (h.low q hq) k.size, h.sl.same (k.same hA), h.len⟩

theorem SE.keepR {ok : Nat → Prop} {w w' : World} {R : Nat} {bv : Value} {l : Bs} (h : SE ok w R bv l) (k : Keep [R] w w') : SE ok w' R bv l := h.keep k fun x hx => by simp at hx; subst hx; exact h.nR

theorem refV_lt {m f : Nat} {bs : Bs} {n : Int} {r : Bs} (h : refV 15 4 bs = .fine n r) : -2147483648 ≤ n ∧ n < 2147483648 := by
  have := likeV bs
  rw [h] at this
  exact (rdVi_lt this).2

section
variable {P : Program}

/-- A number, then so many octets. -/
theorem vo_ok {fv fo : FuncId} (hV : SvFn P fv 32 15 4) (hO : SoFn P fo) {ok : Nat → Prop} {w : World} {R : Nat} {bv : Value} {l : Bs} {s : Rs Unit} {η : Nat → Value} {a : SV} {n m : Nat} {k : NP} {Q : Post} (he : SE ok w R bv l) (hs : SRow w R bv l s)
    (h0 : a.val η = ptr R) (h1 : ∀ v, a.val (upd η n v) = ptr R)
    (hk : ∀ u o d w', Keep [R] w w' → SRow w' R bv l (sstep s refOc) → Sz ok w' d (o.getD []) → (∀ x r, (s.bind fun _ r => refOc r) = .fine x r → o = x) → k.wp P Q (upd (upd η n u) m (.agg #[.bool o.isNone, d])) w') :
    (NP.op (.call fv) [a, .k (.int .i64 32)] n <| NP.op (.call fo) [a, .s n] m k).wp P Q η w := by
  refine np_op (vs := [ptr R, .int .i64 ((32 : Nat) : Int)]) (by simp only [List.map, h0]; simp [SV.val]) (hV ok w R bv l s _ he.nR he.sl he.len hs fun x w1 k1 hs1 hv => ?_)
  have he1 := he.keepR k1
  have hx : -2147483648 ≤ x ∧ x < 2147483648 := by
    cases hq : s.bind fun _ r => refV 15 4 r with
    | fine y r =>
      rw [hq] at hv
      cases s with
      | fine u r0 => dsimp only [Rs.bind] at hq; subst hv; exact refV_lt (m := 0) (f := 0) hq
      | short => cases hq
      | loose => cases hq
    | short => rw [hq] at hv; subst hv; omega
    | loose => rw [hq] at hv; subst hv; omega
  refine np_op (vs := [ptr R, .int .i64 x]) (by simp only [List.map, h1]; simp [SV.val, upd]) (hO ok w1 R bv l _ x _ he1.nR he1.low he1.sl he1.len hs1 hx.1 hx.2 fun o d w2 k2 hs2 hd ho => ?_)
  have e : sstep (sstep s (refV 15 4)) (refO x) = sstep s refOc ∧ ∀ y r, (s.bind fun _ r => refOc r) = .fine y r → ((sstep s (refV 15 4)).bind fun _ r => refO x r) = .fine y r := by
    cases s with
    | fine u r0 =>
      dsimp only [Rs.bind] at hv
      unfold sstep refOc
      dsimp only [Rs.bind]
      cases hq : refV 15 4 r0 with
      | fine y r => rw [hq] at hv; subst hv; exact ⟨rfl, fun _ _ h => h⟩
      | short => exact ⟨rfl, fun _ _ h => h⟩
      | loose => exact ⟨rfl, fun _ _ h => h⟩
    | short => exact ⟨rfl, fun _ _ h => (by cases h)⟩
    | loose => exact ⟨rfl, fun _ _ h => (by cases h)⟩
  rw [e.1] at hs2
  exact hk _ o d w2 (k1.then k2) hs2 hd fun y r h => ho y r (e.2 y r h)

def p_text (fv fail fo : FuncId) : FnP := ⟨.op (.call fv) [.s 0, .k (.int .i64 32)] 1 <|
  .op (.bin .lss) [.s 1, .k (.int .i64 0)] 2 <|
  .ite (.s 2)
    (.op (.call fail) [.s 0, .k (.int .i64 3)] 3 <|
    .nil)
    (.nil) <|
  .op (.call fo) [.s 0, .s 1] 4 <|
  .op (.fld1 1) [.s 4] 5 <|
  .op .toStr [.s 5] 6 <|
  .ret [.s 6], [.direct]⟩

def StFn (P : Program) (fn : FuncId) : Prop := ∀ (ok : Nat → Prop) (w : World) (R : Nat) (bv : Value) (l : Bs) (s : Rs Unit) (K : Value → World → Prop), SE ok w R bv l → SRow w R bv l s →
  (∀ (t : Bs) w', Keep [R] w w' → SRow w' R bv l (sstep s refT) → (∀ x r, (s.bind fun _ r => refT r) = .fine x r → t = x) → K (.string ⟨t.toArray⟩) w') → In.wp P (.call fn) [ptr R] w K

theorem text_ok (hn : Named P) {fn fv fail fo : FuncId} (hf : fnP P fn 1 = some (p_text fv fail fo)) (hV : SvFn P fv 32 15 4) (hF : FailFn P fail) (hO : SoFn P fo) : StFn P fn := by
  intro ok w R bv l s K he hs hk
  refine calls_of_np hn (vs := [ptr R]) hf fun η hη => ?_
  have h0 : η 0 = ptr R := hη 0 (by simp)
  refine np_op (vs := [ptr R, .int .i64 ((32 : Nat) : Int)]) (by simp [SV.val, h0]) (hV ok w R bv l s _ he.nR he.sl he.len hs fun x w1 k1 hs1 hv => ?_)
  have he1 := he.keepR k1
  have hx : -2147483648 ≤ x ∧ x < 2147483648 := by
    cases hq : s.bind fun _ r => refV 15 4 r with
    | fine y r =>
      rw [hq] at hv
      cases s with
      | fine u r0 => dsimp only [Rs.bind] at hq; subst hv; exact refV_lt (m := 0) (f := 0) hq
      | short => cases hq
      | loose => cases hq
    | short => rw [hq] at hv; subst hv; omega
    | loose => rw [hq] at hv; subst hv; omega
  have tail : ∀ (η' : Nat → Value) (w2 : World) (s2 : Rs Unit), η' 0 = ptr R → η' 1 = .int .i64 x → Keep [R] w w2 → SRow w2 R bv l s2 → s2 = (if x < 0 then failS (sstep s (refV 15 4)) 3 else sstep s (refV 15 4)) →
      NP.wp P (.op (.call fo) [.s 0, .s 1] 4 <| .op (.fld1 1) [.s 4] 5 <| .op .toStr [.s 5] 6 <| .ret [.s 6]) (postP [.direct] K) η' w2 := by
    intro η' w2 s2 z0 z1 kk hs2 e2
    have he2 := he.keepR kk
    refine np_op (vs := [ptr R, .int .i64 x]) (by simp [SV.val, z0, z1]) (hO ok w2 R bv l s2 x _ he2.nR he2.low he2.sl he2.len hs2 hx.1 hx.2 fun o d w3 k3 hs3 hd ho => ?_)
    refine np_op (vs := [.agg #[.bool o.isNone, d]]) (by simp [SV.val, upd]) ⟨[.bool o.isNone, d], d, rfl, rfl, ?_⟩
    refine np_op (vs := [d]) (by simp [SV.val, upd]) ⟨_, o.getD [], rfl, hd.sl0, ?_⟩
    have e : sstep s2 (refO x) = sstep s refT ∧ ∀ y r, (s.bind fun _ r => refT r) = .fine y r → o.getD [] = y := by
      cases s with
      | fine u r0 =>
        dsimp only [Rs.bind] at hv
        unfold sstep refT at *
        dsimp only [Rs.bind] at *
        cases hq : refV 15 4 r0 with
        | fine y r =>
          rw [hq] at hv e2
          subst hv
          by_cases hlt : x < 0
          · rw [if_pos hlt] at e2
            subst e2
            dsimp only
            rw [if_pos hlt]
            exact ⟨rfl, fun _ _ h => (by cases h)⟩
          · rw [if_neg hlt] at e2
            subst e2
            dsimp only [Rs.map]
            rw [if_neg hlt]
            refine ⟨by cases refO x r <;> rfl, fun z r' h => ?_⟩
            cases hz : refO x r with
            | fine zz rr =>
              rw [hz] at h
              simp only [Rs.map, Rs.fine.injEq] at h
              have := ho zz rr (by dsimp only [Rs.map]; exact hz)
              rw [this]; exact h.1
            | short => rw [hz] at h; cases h
            | loose => rw [hz] at h; cases h
        | short =>
          rw [hq] at hv e2
          subst hv
          rw [if_neg (by omega)] at e2
          subst e2
          exact ⟨rfl, fun _ _ h => (by cases h)⟩
        | loose =>
          rw [hq] at hv e2
          subst hv
          rw [if_neg (by omega)] at e2
          subst e2
          exact ⟨rfl, fun _ _ h => (by cases h)⟩
      | short =>
        have : s2 = .short := by rw [e2]; split <;> rfl
        subst this
        exact ⟨rfl, fun _ _ h => (by cases h)⟩
      | loose =>
        have : s2 = .loose := by rw [e2]; split <;> rfl
        subst this
        exact ⟨rfl, fun _ _ h => (by cases h)⟩
    rw [e.1] at hs3
    show K (pack _) w3
    simpa [SV.val, upd, pack] using hk (o.getD []) w3 (kk.then k3) hs3 e.2
  refine np_op (vs := [.int .i64 x, .int .i64 0]) (by simp [SV.val, upd]) ⟨.i64, _, _, _, rfl, rfl, ?_⟩
  by_cases hlt : x < 0
  · refine iT (by simp [SV.val, upd]; omega) ?_
    refine np_op (vs := [ptr R, .int .i64 3]) (by simp [SV.val, upd, h0]) (srow_fail hF (.inr rfl) hs1 fun u w2 k2 hs2 => ?_)
    exact tail _ w2 _ (by simp [upd, h0]) (by simp [upd]) (k1.then k2) hs2 (by rw [if_pos hlt])
  · refine iF (by simp [SV.val, upd]; omega) ?_
    exact tail _ w1 _ (by simp [upd, h0]) (by simp [upd]) k1 hs1 (by rw [if_neg hlt])

def p_header (ft fv fo : FuncId) : FnP := ⟨.op (.alloc [.string ByteArray.empty, .bool false, .slice none 0 0]) [] 1 <|
  .chk 1 <|
  .op (.call ft) [.s 0] 2 <|
  .op (.call fv) [.s 0, .k (.int .i64 32)] 3 <|
  .op (.call fo) [.s 0, .s 3] 4 <|
  .op (.litG [.string ByteArray.empty, .bool false, .slice none 0 0] [(0, 1), (1, 2)]) [.s 2, .s 4] 5 <|
  .op (.store 3) [.q 1 0, .s 5] 6 <|
  .ret [.q 1 0], [.cells 3]⟩

def ShFn (P : Program) (fn : FuncId) : Prop := ∀ (ok : Nat → Prop) (w : World) (R : Nat) (bv : Value) (l : Bs) (s : Rs Unit) (K : Value → World → Prop), SE ok w R bv l → SRow w R bv l s →
  (∀ (h : Hd) d w', Keep [R] w w' → SRow w' R bv l (sstep s refHd) → Sz ok w' d (h.2.getD []) → (∀ x r, (s.bind fun _ r => refHd r) = .fine x r → h = x) → K (.agg #[.string ⟨h.1.toArray⟩, .bool h.2.isNone, d]) w') → In.wp P (.call fn) [ptr R] w K

theorem header_ok (hn : Named P) {fn ft fv fo : FuncId} (hf : fnP P fn 1 = some (p_header ft fv fo)) (hT : StFn P ft) (hV : SvFn P fv 32 15 4) (hO : SoFn P fo) : ShFn P fn := by
  intro ok w R bv l s K he hs hk
  refine calls_of_np hn (vs := [ptr R]) hf fun η hη => ?_
  have h0 : η 0 = ptr R := hη 0 (by simp)
  have hRlt : R < w.heap.size := by obtain ⟨_, _, hr, _⟩ := hs; exact hr.lt
  refine np_op (vs := []) rfl (wp_alloc fun b w1 r1 hb k1 => ?_)
  refine ⟨⟨_, by simp only [upd]; rfl⟩, ?_⟩
  have hbR : b ≠ R := by omega
  have k1' : Keep [R] w w1 := k1.mono fun x hx _ => by cases hx
  have he1 := he.keepR k1'
  refine np_op (vs := [ptr R]) (by simp [SV.val, upd, h0]) (hT ok w1 R bv l s _ he1 (hs.keep k1 (by simp)) fun t w2 k2 hs2 ht => ?_)
  have he2 := he1.keepR k2
  have r2 := r1.keep k2 (by simpa using hbR)
  refine vo_ok hV hO he2 hs2 (by simp [SV.val, upd, h0]) (fun v => by simp [SV.val, upd, h0]) fun u o d w3 k3 hs3 hd ho => ?_
  have r3 := r2.keep k3 (by simpa using hbR)
  have hA : (Value.agg #[.bool o.isNone, d]).cells = #[.bool o.isNone, d] := rfl
  have hS : ∀ s, (Value.string s).cells = #[.string s] := fun s => rfl
  refine np_op (vs := [.string ⟨t.toArray⟩, .agg #[.bool o.isNone, d]]) (by simp [SV.val, upd]) ⟨[.string ⟨t.toArray⟩, .bool o.isNone, d], by simp [fillG, hS, hA], ?_⟩
  have hd1 := oneZ hd
  refine np_op (vs := [ptr b, .agg #[.string ⟨t.toArray⟩, .bool o.isNone, d]]) (by simp [SV.val, upd, add0]) (wp_store r3 (n := 3) ⟨rfl, by have := hd1.2; simp only [Value.cells]; simp [this]; first | done | exact ⟨rfl, rfl⟩⟩ (by simp) fun w4 r4 k4 => ?_)
  have r4 : Row w4 b [.string ⟨t.toArray⟩, .bool o.isNone, d] := r4
  refine ⟨b, 0, [.string ⟨t.toArray⟩, .bool o.isNone, d], by simp [SV.val, upd, add0], by simpa using r4.range 0 3, rfl, ?_⟩
  have kk3 : Keep [R] w w3 := k1'.then (k2.then k3)
  have kk : Keep [R] w w4 := kk3.trans k4 fun x hx hlt => by simp at hx; omega
  have e : sstep (sstep s refT) refOc = sstep s refHd ∧ ∀ y r, (s.bind fun _ r => refHd r) = .fine y r → (t, o) = y := by
    cases s with
    | fine u r0 =>
      unfold sstep refHd at *
      dsimp only [Rs.bind] at *
      cases hq : refT r0 with
      | fine y r =>
        have := ht y r hq
        subst this
        rw [hq] at ho
        dsimp only [Rs.map] at ho ⊢
        refine ⟨by cases refOc r <;> rfl, fun z r' h => ?_⟩
        cases hz : refOc r with
        | fine zz rr =>
          rw [hz] at h
          simp only [Rs.map, Rs.fine.injEq] at h
          have := ho zz rr hz
          rw [this]; exact h.1
        | short => rw [hz] at h; cases h
        | loose => rw [hz] at h; cases h
      | short => exact ⟨rfl, fun _ _ h => (by cases h)⟩
      | loose => exact ⟨rfl, fun _ _ h => (by cases h)⟩
    | short => exact ⟨rfl, fun _ _ h => (by cases h)⟩
    | loose => exact ⟨rfl, fun _ _ h => (by cases h)⟩
  rw [e.1] at hs3
  have := hk (t, o) d w4 kk (hs3.keep k4 (by simpa using hbR.symm)) (hd.same (k4.same fun x hx hh => by simp at hx; subst hx; have := he.low _ hh; omega)) e.2
  show K (pack _) w4
  simpa [pack] using this

end

/-! What a reading comes to. -/
theorem refHs_snoc : ∀ (n : Nat) (bs : Bs), refHs (n + 1) bs = (refHs n bs).bind fun l r => (refHd r).map fun h => l ++ [h] := by
  intro n
  induction n with
  | zero =>
    intro bs
    have e1 : refHs (0 + 1) bs = (refHd bs).bind fun h r => (refHs 0 r).map fun l => h :: l := rfl
    rw [e1]
    show _ = (refHd bs).map fun h => [] ++ [h]
    cases refHd bs <;> rfl
  | succ n ih =>
    intro bs
    have e1 : refHs (n + 1 + 1) bs = (refHd bs).bind fun h r => (refHs (n + 1) r).map fun l => h :: l := rfl
    have e2 : refHs (n + 1) bs = (refHd bs).bind fun h r => (refHs n r).map fun l => h :: l := rfl
    rw [e1, e2]
    cases h : refHd bs with
    | short => rfl
    | loose => rfl
    | fine p r =>
      dsimp only [Rs.bind]
      rw [ih r]
      cases h2 : refHs n r with
      | short => rfl
      | loose => rfl
      | fine q r2 =>
        dsimp only [Rs.bind, Rs.map]
        cases h3 : refHd r2 <;> rfl

theorem refHs_bad {bs : Bs} {i : Nat} : ∀ n, i ≤ n → (refHs i bs = .short → refHs n bs = .short) ∧ (refHs i bs = .loose → refHs n bs = .loose) := by
  intro n
  induction n with
  | zero => intro h; have : i = 0 := by omega
            subst this; exact ⟨fun h => h, fun h => h⟩
  | succ n ih =>
    intro h
    by_cases hi : i = n + 1
    · subst hi; exact ⟨fun h => h, fun h => h⟩
    · obtain ⟨h1, h2⟩ := ih (by omega)
      exact ⟨fun h => by rw [refHs_snoc, h1 h]; rfl, fun h => by rw [refHs_snoc, h2 h]; rfl⟩

theorem refHs_many {n : Nat} {bs : Bs} {l : List Hd} {r : Bs} (h : refHs n bs = .fine l r) : n ≤ bs.length ∧ l.length = n := by
  have := likeHs n bs
  rw [h] at this
  exact rdHs_many n bs l r this

/-- The length at the end. -/
def finS (x : Rec) (b0len : Int) : Rs Unit → Rs Rec
  | .short => .short
  | .loose => .loose
  | .fine _ b7 => if x.len ≠ b0len - b7.length then .loose else .fine x b7

/-- The record's reading, put together. -/
theorem rec_fin {l : Bs} {S1 S2 S3 S4 S5 S6 S7 S8 : Rs Unit} {a b c d n : Int} {ko vo : Option Bs} {hl : List Hd} {b0len : Int}
    (e1 : S1 = sstep (.fine () l) (refV 15 4)) (v1 : ∀ x r, refV 15 4 l = .fine x r → a = x ∧ b0len = r.length) (e2 : S2 = sstep S1 refI8) (v2 : ∀ x r, (S1.bind fun _ r => refI8 r) = .fine x r → b = x) (e3 : S3 = sstep S2 (refV 1 9)) (v3 : ∀ x r, (S2.bind fun _ r => refV 1 9 r) = .fine x r → c = x)
    (e4 : S4 = sstep S3 (refV 15 4)) (v4 : ∀ x r, (S3.bind fun _ r => refV 15 4 r) = .fine x r → d = x) (e5 : S5 = sstep S4 refOc) (v5 : ∀ x r, (S4.bind fun _ r => refOc r) = .fine x r → ko = x) (e6 : S6 = sstep S5 refOc) (v6 : ∀ x r, (S5.bind fun _ r => refOc r) = .fine x r → vo = x)
    (e7 : S7 = sstep S6 (refV 15 4)) (v7 : match S6.bind fun _ r => refV 15 4 r with | .fine x _ => n = x | _ => n = 0)
    (e8 : match (if n < 0 then failS S7 3 else S7) with | .short => S8 = .short | .loose => S8 = .loose | .fine _ r => match refHs n.toNat r with | .short => S8 = .short | .loose => S8 = .loose | .fine hs r' => S8 = .fine () r' ∧ hl = hs) :
    refRec l = finS ⟨a, b, c, d, ko, vo, hl⟩ b0len S8 := by
  unfold refRec
  unfold sstep at e1
  dsimp only [Rs.bind] at e1
  have badS : ∀ s : Rs Unit, s = .short ∨ s = .loose → S6 = s → S8 = s := by
    intro s hs h6
    subst h6
    rcases hs with h | h
    · rw [h] at e7 v7; subst e7; have hn0 : n = 0 := v7; rw [hn0] at e8; rw [h]; exact e8
    · rw [h] at e7 v7; subst e7; have hn0 : n = 0 := v7; rw [hn0] at e8; rw [h]; exact e8
  cases h1 : refV 15 4 l with
  | short => rw [h1] at e1; subst e1; subst e2; subst e3; subst e4; subst e5; subst e6; rw [badS .short (.inl rfl) rfl]; rfl
  | loose => rw [h1] at e1; subst e1; subst e2; subst e3; subst e4; subst e5; subst e6; rw [badS .loose (.inr rfl) rfl]; rfl
  | fine x1 b0 =>
    rw [h1] at e1; subst e1
    obtain ⟨ea, eb⟩ := v1 _ _ h1
    subst ea; subst eb
    unfold sstep at e2
    dsimp only [Rs.bind, Rs.map] at e2 v2 ⊢
    cases h2 : refI8 b0 with
    | short => rw [h2] at e2; subst e2; subst e3; subst e4; subst e5; subst e6; rw [badS .short (.inl rfl) rfl]; rfl
    | loose => rw [h2] at e2; subst e2; subst e3; subst e4; subst e5; subst e6; rw [badS .loose (.inr rfl) rfl]; rfl
    | fine x2 b1 =>
      rw [h2] at e2; subst e2
      have ea := v2 _ _ h2
      subst ea
      unfold sstep at e3
      dsimp only [Rs.bind, Rs.map] at e3 v3 ⊢
      cases h3 : refV 1 9 b1 with
      | short => rw [h3] at e3; subst e3; subst e4; subst e5; subst e6; rw [badS .short (.inl rfl) rfl]; rfl
      | loose => rw [h3] at e3; subst e3; subst e4; subst e5; subst e6; rw [badS .loose (.inr rfl) rfl]; rfl
      | fine x3 b2 =>
        rw [h3] at e3; subst e3
        have ea := v3 _ _ h3
        subst ea
        unfold sstep at e4
        dsimp only [Rs.bind, Rs.map] at e4 v4 ⊢
        cases h4 : refV 15 4 b2 with
        | short => rw [h4] at e4; subst e4; subst e5; subst e6; rw [badS .short (.inl rfl) rfl]; rfl
        | loose => rw [h4] at e4; subst e4; subst e5; subst e6; rw [badS .loose (.inr rfl) rfl]; rfl
        | fine x4 b3 =>
          rw [h4] at e4; subst e4
          have ea := v4 _ _ h4
          subst ea
          unfold sstep at e5
          dsimp only [Rs.bind, Rs.map] at e5 v5 ⊢
          cases h5 : refOc b3 with
          | short => rw [h5] at e5; subst e5; subst e6; rw [badS .short (.inl rfl) rfl]; rfl
          | loose => rw [h5] at e5; subst e5; subst e6; rw [badS .loose (.inr rfl) rfl]; rfl
          | fine x5 b4 =>
            rw [h5] at e5; subst e5
            have ea := v5 _ _ h5
            subst ea
            unfold sstep at e6
            dsimp only [Rs.bind, Rs.map] at e6 v6 ⊢
            cases h6 : refOc b4 with
            | short => rw [h6] at e6; rw [badS .short (.inl rfl) e6]; rfl
            | loose => rw [h6] at e6; rw [badS .loose (.inr rfl) e6]; rfl
            | fine x6 b5 =>
              rw [h6] at e6; subst e6
              have ea := v6 _ _ h6
              subst ea
              unfold sstep at e7
              dsimp only [Rs.bind, Rs.map] at e7 v7 ⊢
              cases h7 : refV 15 4 b5 with
              | short =>
                rw [h7] at e7 v7; subst e7
                have hn0 : n = 0 := v7
                rw [hn0] at e8
                have h8 : S8 = .short := e8
                rw [h8]; rfl
              | loose =>
                rw [h7] at e7 v7; subst e7
                have hn0 : n = 0 := v7
                rw [hn0] at e8
                have h8 : S8 = .loose := e8
                rw [h8]; rfl
              | fine x7 b6 =>
                rw [h7] at e7 v7; subst e7
                have hn0 : n = x7 := v7
                subst hn0
                dsimp only
                by_cases hneg : n < 0
                · rw [if_pos hneg] at e8 ⊢
                  have h8 : S8 = .loose := e8
                  rw [h8]; rfl
                · rw [if_neg hneg] at e8 ⊢
                  dsimp only at e8
                  cases h9 : refHs n.toNat b6 with
                  | short => rw [h9] at e8; have h8 : S8 = .short := e8; rw [h8]; rfl
                  | loose => rw [h9] at e8; have h8 : S8 = .loose := e8; rw [h8]; rfl
                  | fine hs b7 =>
                    rw [h9] at e8
                    obtain ⟨h8, rfl⟩ : S8 = .fine () b7 ∧ hl = hs := e8
                    rw [h8]
                    rfl

end Go.Ar

/- THE FORM'S READER READS A RECORD. -/
namespace Go.Ar
open Go.Lx Go.Nx Go.Km Go.Mx Go.Kb

set_option linter.unusedSimpArgs false
set_option linter.unusedVariables false

section
variable {P : Program} {eG : TypeId}

abbrev hz9 : NP := .set 29 (.k (.bool false)) <| .set 30 (.k (.tuple #[])) <| .set 31 (.k (.tuple #[])) <| .set 32 (.k (.tuple #[])) <| .set 33 (.k (.tuple #[])) <| .set 34 (.k (.tuple #[])) <| .set 35 (.k (.bool false)) .nil

def rrBody (hd : FuncId) (eG : TypeId) : NP := .op (.bin .lss) [.s 25, .s 22] 26 <|
    .ite (.s 26)
      (.op .load [.q 3 2] 27 <|
      .op (.bin .eql) [.s 27, .k (.int .i64 0)] 28 <|
      .set 29 (.k (.bool true)) <|
      .set 30 (.q 3 0) <|
      .set 31 (.q 3 0) <|
      .set 32 (.q 3 2) <|
      .set 33 (.s 27) <|
      .set 34 (.s 28) <|
      .set 35 (.s 28) <|
      .nil)
      hz9 <|
    .ite (.s 35)
      (.nil)
      (.exit) <|
    .draw <|
    .look .load [.q 1 8] 36 <|
    .op (.call hd) [.q 3 0] 37 <|
    .keep .load [.q 1 8] 36 <|
    .op (.bslG 3) [.s 37] 38 <|
    .keep .load [.q 1 8] 36 <|
    .op (.appG eG 3) [.s 36, .s 38] 39 <|
    .keep .load [.q 1 8] 36 <|
    .op (.store 1) [.q 1 8, .s 39] 40 <|
    .op (.bin .add) [.s 25, .k (.int .i64 1)] 41 <|
    .set 42 (.s 41) <|
    .set 25 (.s 42) <|
    .nil

abbrev hz12 : NP := .set 50 (.k (.bool false)) <| .set 51 (.k (.tuple #[])) <| .set 52 (.k (.tuple #[])) <| .set 53 (.k (.tuple #[])) <| .set 54 (.k (.tuple #[])) <| .set 55 (.k (.tuple #[])) <| .set 56 (.k (.tuple #[])) <| .set 57 (.k (.tuple #[])) <| .set 58 (.k (.tuple #[])) <| .set 59 (.k (.tuple #[])) <| .set 60 (.k (.tuple #[])) <| .set 61 (.k (.bool false)) .nil

def rrEnd : NP := .draw <|
  .look (.loadN 9) [.q 1 0] 63 <|
  .look .load [.q 3 1] 64 <|
  .look .load [.q 3 2] 65 <|
  .op (.store 9) [.q 1 0, .s 63] 66 <|
  .keep .load [.q 3 2] 65 <|
  .keep .load [.q 3 1] 64 <|
  .keep (.loadN 9) [.q 1 0] 63 <|
  .ret [.q 1 0, .s 64, .s 65]

def rrTail (fail : FuncId) : NP := .draw <|
  .look .load [.q 3 2] 43 <|
  .look (.bin .eql) [.s 43, .k (.int .i64 0)] 44 <|
  .ite (.s 44)
    (.look .load [.q 1 0] 45 <|
    .look (.cv .i64) [.s 45] 46 <|
    .look .load [.q 3 1] 47 <|
    .look (.bin .sub) [.s 47, .s 7] 48 <|
    .look (.bin .neq) [.s 46, .s 48] 49 <|
    .set 50 (.k (.bool true)) <|
    .set 51 (.q 1 0) <|
    .set 52 (.s 45) <|
    .set 53 (.s 46) <|
    .set 54 (.q 3 0) <|
    .set 55 (.q 3 0) <|
    .set 56 (.q 3 1) <|
    .set 57 (.s 47) <|
    .set 58 (.s 7) <|
    .set 59 (.s 48) <|
    .set 60 (.s 49) <|
    .set 61 (.s 49) <|
    .nil)
    hz12 <|
  .ite (.s 61)
    (.op (.call fail) [.q 3 0, .k (.int .i64 3)] 62 <|
    .nil)
    (.nil) <|
  rrEnd

structure RI where
  sv : FuncId
  sf : FuncId
  so : FuncId
  fail : FuncId
  hd : FuncId
  eG : TypeId

def p_readRecord (I : RI) : FnP := ⟨.op (.alloc z9) [] 1 <|
  .chk 1 <|
  .op (.lit [.slice none 0 0, .int .i64 0, .int .i64 0] [0]) [.s 0] 2 <|
  .op (.box 3) [.s 2] 3 <|
  .chk 3 <|
  .op (.call I.sv) [.q 3 0, .k (.int .i64 32)] 4 <|
  .op (.cv .i32) [.s 4] 5 <|
  .op (.store 1) [.q 1 0, .s 5] 6 <|
  .op .load [.q 3 1] 7 <|
  .op (.call I.sf) [.q 3 0, .k (.int .i64 1)] 8 <|
  .op (.cv .i8) [.s 8] 9 <|
  .op (.store 1) [.q 1 1, .s 9] 10 <|
  .op (.call I.sv) [.q 3 0, .k (.int .i64 64)] 11 <|
  .op (.store 1) [.q 1 2, .s 11] 12 <|
  .op (.call I.sv) [.q 3 0, .k (.int .i64 32)] 13 <|
  .op (.cv .i32) [.s 13] 14 <|
  .op (.store 1) [.q 1 3, .s 14] 15 <|
  .op (.call I.sv) [.q 3 0, .k (.int .i64 32)] 16 <|
  .op (.call I.so) [.q 3 0, .s 16] 17 <|
  .op (.store 2) [.q 1 4, .s 17] 18 <|
  .op (.call I.sv) [.q 3 0, .k (.int .i64 32)] 19 <|
  .op (.call I.so) [.q 3 0, .s 19] 20 <|
  .op (.store 2) [.q 1 6, .s 20] 21 <|
  .op (.call I.sv) [.q 3 0, .k (.int .i64 32)] 22 <|
  .op (.bin .lss) [.s 22, .k (.int .i64 0)] 23 <|
  .ite (.s 23)
    (.op (.call I.fail) [.q 3 0, .k (.int .i64 3)] 24 <|
    .nil)
    (.nil) <|
  .set 25 (.k (.int .i64 0)) <|
  .loop (rrBody I.hd I.eG) <|
  rrTail I.fail, [.cells 9, .direct, .direct]⟩

/-- How far the headers are. -/
def HRel (S : Rs Unit) (i : Nat) (st : Rs Unit) (hl : List Hd) : Prop := match S with
  | .short => st = .short
  | .loose => st = .loose
  | .fine _ r => match refHs i r with
    | .short => st = .short
    | .loose => st = .loose
    | .fine hs r' => st = .fine () r' ∧ hl = hs

structure LIn (w0 : World) (ok : Nat → Prop) (X R B : Nat) (bv : Value) (l : Bs) (pre : List Value) (eG : TypeId) (n : Int) (pos1 : Nat) (i : Nat) (st : Rs Unit) (hl : List Hd) (η : Nat → Value) (w : World) : Prop where
  h1 : η 1 = ptr X
  h3 : η 3 = ptr R
  h7 : η 7 = .int .i64 (pos1 : Int)
  h22 : η 22 = .int .i64 n
  h25 : η 25 = .int .i64 (i : Int)
  keep : Keep [] w0 w
  size : B ≤ w.heap.size
  srow : SRow w R bv l st
  rest : ∃ hs xs, Row w X (pre ++ [hs]) ∧ w.ownsRow B eG 3 hs hl.length xs ∧ XsR ok w hl xs

theorem lround {hd : FuncId} (hH : ShFn P hd) {w0 : World} {ok : Nat → Prop} {X R B : Nat} {bv : Value} {l : Bs} {pre : List Value} {n : Int} {pos1 : Nat} {i : Nat} {r : Bs} {hl : List Hd} {η : Nat → Value} {w : World} {Q : Post}
    (hok : ∀ k, ok k ↔ k < w0.heap.size) (hpre : pre.length = 8) (hX : w0.heap.size ≤ X) (hR : w0.heap.size ≤ R) (hXR : X ≠ R) (hXB : X < B) (hRB : R < B) (hsl : Sz ok w0 bv l) (hll : l.length ≤ 1048576) (hi : (i : Int) < n) (hi2 : i ≤ 1048576) (hhl : hl.length ≤ 1048576)
    (h : LIn w0 ok X R B bv l pre eG n pos1 i (.fine () r) hl η w)
    (hk : ∀ η' w' a, (∀ x r', refHd r = .fine x r' → a = x) → LIn w0 ok X R B bv l pre eG n pos1 (i + 1) (sstep (.fine () r) refHd) (hl ++ [a]) η' w' → Q .nrm η' w') : (rrBody hd eG).wp P Q η w := by
  obtain ⟨hs, xs, rX, ow, hx⟩ := h.rest
  have hse0 : SE ok w0 R bv l := ⟨fun hh => by have := (hok R).1 hh; omega, fun k hk => (hok k).1 hk, hsl, hll⟩
  have hse := hse0.keep h.keep (fun x hx => by cases hx)
  have hsz0 := h.keep.size
  have hgX : hs.ownBlock ≠ some X := fun hh => by have := owns_lt ow X hh; omega
  have hgR : hs.ownBlock ≠ some R := fun hh => by have := owns_lt ow R hh; omega
  obtain ⟨pos, how, hr, hp, hso⟩ := id h.srow
  obtain ⟨rfl, hrd⟩ := hso
  refine np_op (vs := [.int .i64 (i : Int), .int .i64 n]) (by simp [SV.val, h.h25, h.h22]) ⟨.i64, _, _, _, rfl, rfl, ?_⟩
  refine iT (by simp [SV.val, upd]; omega) ?_
  refine np_op (vs := [.pointer (some ⟨R, 2, none⟩)]) (by simp [SV.val, upd, h.h3, Addr.add]) (wp_load hr rfl ?_)
  refine np_op (vs := [.int .i64 0, .int .i64 0]) (by simp [SV.val, upd]) ⟨.i64, _, _, _, rfl, rfl, ?_⟩
  show NP.wp P (.ite (.s 35) _ _ _) _ _ _
  refine iT (by simp [SV.val, upd]) ?_
  refine np_draw ?_
  have kd := keep_drawn w
  generalize hw1 : ({ w with drawn := w.drawn + 1 } : World) = w1 at kd ⊢
  have rX1 := rX.keep kd (by simp)
  have ow1 := owns_keep ow kd (fun g _ hg => by cases hg)
  have hO8 : (pre ++ [hs])[8]? = some hs := by rw [List.getElem?_append_right (by omega), hpre]; rfl
  have kp : ∀ {ζ : Nat → Value} {w' : World} {k : NP} {Q' : Post}, ζ 1 = ptr X → ζ 36 = hs → Row w' X (pre ++ [hs]) → k.wp P Q' ζ w' → (NP.keep .load [.q 1 8] 36 k).wp P Q' ζ w' := fun {ζ w' k Q'} z1 z36 rx hk' =>
    np_keep (vs := [.pointer (some ⟨X, 8, none⟩)]) (by simp [SV.val, z1, Addr.add]) (wp_load rx hO8 ⟨z36.symm, rfl⟩) hk'
  refine np_look (vs := [.pointer (some ⟨X, 8, none⟩)]) (by simp [SV.val, upd, h.h1, Addr.add]) (wp_load rX1 hO8 ⟨rfl, ?_⟩)
  have hse1 := hse.keep kd (fun x hx => by cases hx)
  refine np_op (vs := [ptr R]) (by simp [SV.val, upd, h.h3, add0]) (hH ok w1 R bv l _ _ hse1 (h.srow.keep kd (by simp)) fun a d w2 k2 hs2 hd2 ha => ?_)
  have rX2 := rX1.keep k2 (by simpa using hXR)
  have ow2 := owns_keep ow1 k2 (fun g hg hm => by simp at hm; exact hgR (by rw [hg, hm]))
  refine kp (by simp [upd, h.h1]) (by simp [upd]) rX2 ?_
  have hd1 := oneZ hd2
  refine np_op (vs := [.agg #[.string ⟨a.1.toArray⟩, .bool a.2.isNone, d]]) (by simp [SV.val, upd]) ⟨fun v hv => by simp at hv; subst hv; rfl, fun e5 => ?_⟩
  have hfl : ([Value.agg #[.string ⟨a.1.toArray⟩, .bool a.2.isNone, d]].map (·.cells.toList)).flatten = [.string ⟨a.1.toArray⟩, .bool a.2.isNone, d] := by simp [Value.cells]
  rw [hfl]
  obtain ⟨r5n, k5⟩ := alloc_row (w := w2) [.string ⟨a.1.toArray⟩, .bool a.2.isNone, d] e5
  generalize hw5 : w2.alloc (.cells [Value.string ⟨a.1.toArray⟩, .bool a.2.isNone, d].toArray e5) = w5 at r5n k5 ⊢
  generalize hN : w2.heap.size = N5 at r5n ⊢
  have rX5 := rX2.keep k5 (by simp)
  have ow5 := owns_keep ow2 k5 (fun g _ hg => by cases hg)
  refine kp (by simp [upd, h.h1]) (by simp [upd]) rX5 ?_
  have hsz1 := kd.size
  have hsz2 := k2.size
  have hsz5 := k5.size
  have hBw := h.size
  refine np_op (vs := [hs, .slice (some ⟨N5, 0, none⟩) 1 1]) (by simp [SV.val, upd]) ⟨B, hs, hl.length, xs, _, 1, 1, [.string ⟨a.1.toArray⟩, .bool a.2.isNone, d], rfl, ow5, by omega, rfl, fun j v hj => ?_, fun v hv => ?_, by omega, fun hs' w6 ow6 hb6 hg6 => ?_⟩
  · have ha' : (⟨N5, 0, none⟩ : Addr).add j = ⟨N5, j, none⟩ := by simp [Addr.add]; omega
    rw [ha']; exact r5n.cell hj
  · simp at hv
    rcases hv with rfl | rfl | rfl
    · rfl
    · rfl
    · exact hd1.2
  have rX6 : Row w6 X _ := Gr.row hg6 rX5 hgX
  refine kp (by simp [upd, h.h1]) (by simp [upd]) rX6 ?_
  have hone' := owns_one ow6
  refine np_op (vs := [.pointer (some ⟨X, 8, none⟩), hs']) (by simp [SV.val, upd, h.h1, Addr.add]) (wp_store rX6 hone'.fit (by simp; omega) fun w7 rX7 k7 => ?_)
  have hput : put (pre ++ [hs]) 8 hs'.cells.toList = pre ++ [hs'] := by
    rw [hone'.list]
    unfold put
    rw [List.take_left' hpre, List.drop_of_length_le (by simp; omega), List.append_nil]
  rw [hput] at rX7
  refine np_op (vs := [.int .i64 (i : Int), .int .i64 1]) (by simp [SV.val, upd, h.h25]) ⟨.i64, _, _, _, rfl, rfl, ?_⟩
  rw [wrap64 _ (by omega) (by omega)]
  have hg' : hs'.ownBlock ≠ some X := fun hh => by have := owns_lt ow6 X hh; rcases hg6.2 with e | e
                                                   · rw [e] at hh; exact hgX hh
                                                   · have := e X hh; have := rX5.lt; omega
  have k05 : Keep [] w0 w5 := (h.keep.then kd).trans (k2.then (k5.mono fun x hx _ => by cases hx)) fun x hx hlt => by simp at hx; omega
  have k06 : Keep [] w0 w6 := by
    refine ⟨hb6.os.trans k05.os, hb6.tape.trans k05.tape, hb6.output.trans k05.output, Nat.le_trans k05.size hb6.size, fun k hk hkn => ?_⟩
    rw [hb6.block k (by omega)]
    exact k05.block k hk hkn
  have k07 : Keep [] w0 w7 := k06.trans k7 fun x hx hlt => by simp at hx; omega
  have hs7 : SRow w7 R bv l (sstep (.fine () r) refHd) := by
    have h5 := hs2.keep k5 (by simp)
    obtain ⟨q1, q2, q3, q4, q5⟩ := h5
    have : SRow w6 R bv l (sstep (.fine () r) refHd) := ⟨q1, q2, Gr.row hg6 q3 hgR, q4, q5⟩
    exact this.keep k7 (by simpa using hXR.symm)
  have sameOk : ∀ {wa wb : World}, Keep [] w0 wa → Keep [] w0 wb → wa.heap.size ≤ wb.heap.size → Same ok wa wb := fun {wa wb} ka kb hab => ⟨hab, fun k hk ho => by
    have := (hok k).1 ho
    rw [kb.block k this (by simp), ka.block k this (by simp)]⟩
  refine hk _ w7 a (fun x r' hh => ha x r' hh) ⟨by simp [upd, h.h1], by simp [upd, h.h3], by simp [upd, h.h7], by simp [upd, h.h22], by simp [upd, SV.val], k07, ?_, hs7, hs', xs ++ [.string ⟨a.1.toArray⟩, .bool a.2.isNone, d], rX7, ?_, ?_⟩
  · have := k7.size; have := hb6.size; omega
  · have := owns_keep ow6 k7 (fun g hg hm => by simp at hm; exact hg' (by rw [hg, hm]))
    rw [List.length_append]; exact this
  · have hsz6 := hb6.size
    have hsz7 := k7.size
    have k02 : Keep [] w0 w2 := (h.keep.then kd).trans k2 fun x hx hlt => by simp at hx; omega
    exact XsR.snoc (hx.same (sameOk h.keep k07 (by omega))) (hd2.same (sameOk k02 k07 (by omega)))

end
end Go.Ar

/- THE FORM'S READER READS A RECORD: the whole. -/
namespace Go.Ar
open Go.Lx Go.Nx Go.Km Go.Mx Go.Kb

set_option linter.unusedSimpArgs false
set_option linter.unusedVariables false

/-- What the form says of a reading. -/
def REnd (bs : Bs) (x : Rec) (how : Int) : Prop := match refRec bs with
  | .fine y _ => how = 0 ∧ x = y
  | .short => how = 1
  | .loose => how = 3

theorem srow_fine {w : World} {R : Nat} {bv : Value} {l : Bs} {u : Unit} {r : Bs} (h : SRow w R bv l (.fine u r)) : ∃ pos : Nat, Row w R [bv, .int .i64 (pos : Int), .int .i64 0] ∧ pos ≤ l.length ∧ r = l.drop pos := by
  obtain ⟨pos, how, h1, h2, rfl, h4⟩ := h
  exact ⟨pos, h1, h2, h4⟩

theorem srow_bad {w : World} {R : Nat} {bv : Value} {l : Bs} {s : Rs Unit} (h : SRow w R bv l s) (hs : ∀ u r, s ≠ .fine u r) : ∃ (pos : Nat) (how : Int), Row w R [bv, .int .i64 (pos : Int), .int .i64 how] ∧ how ≠ 0 ∧ pos ≤ l.length := by
  obtain ⟨pos, how, h1, h2, h3⟩ := h
  refine ⟨pos, how, h1, ?_, h2⟩
  cases s with
  | fine u r => exact (hs u r rfl).elim
  | short => have : how = 1 := h3; omega
  | loose => have : how = 3 := h3; omega

/-- The value of a number that was asked for. -/
def VV (s : Rs Unit) (d : Bs → Rs Int) (n : Int) : Prop := match s.bind fun _ r => d r with
  | .fine x _ => n = x
  | _ => n = 0

theorem VV.val {s : Rs Unit} {d : Bs → Rs Int} {n : Int} (h : VV s d n) : ∀ x r, (s.bind fun _ r => d r) = .fine x r → n = x := fun x r e => by
  unfold VV at h; rw [e] at h; exact h

theorem VV.rng {s : Rs Unit} {d : Bs → Rs Int} {n lo hi : Int} (h : VV s d n) (hd : ∀ bs x r, d bs = .fine x r → lo ≤ x ∧ x < hi) (h0 : lo ≤ 0 ∧ 0 < hi) : lo ≤ n ∧ n < hi := by
  unfold VV at h
  cases hq : s.bind fun _ r => d r with
  | fine x r =>
    rw [hq] at h
    cases s with
    | fine u r0 => dsimp only [Rs.bind] at hq; subst h; exact hd _ _ _ hq
    | short => cases hq
    | loose => cases hq
  | short => rw [hq] at h; subst h; exact h0
  | loose => rw [hq] at h; subst h; exact h0

theorem refV32_rng (bs : Bs) (x : Int) (r : Bs) (h : refV 15 4 bs = .fine x r) : -2147483648 ≤ x ∧ x < 2147483648 := refV_lt (m := 0) (f := 0) h

theorem refI8_rng (bs : Bs) (x : Int) (r : Bs) (h : refI8 bs = .fine x r) : -128 ≤ x ∧ x < 128 := by
  cases bs with
  | nil => simp [refI8, rdI, rdU, cut] at h
  | cons b t =>
    rw [refI8_cons] at h
    have hb8 := b.toNat_lt
    cases h
    unfold sgn; split <;> simp at * <;> omega

theorem wrap32 (n : Int) (h1 : -2147483648 ≤ n) (h2 : n < 2147483648) : IntKind.i32.wrap n = n := by rw [IntKind.wrap_i32]; omega
theorem wrap8 (n : Int) (h1 : -128 ≤ n) (h2 : n < 128) : IntKind.i8.wrap n = n := by unfold IntKind.wrap; simp [IntKind.signed, IntKind.bits]; omega

theorem hrel_zero (S : Rs Unit) : HRel S 0 S [] := by
  cases S with
  | short => rfl
  | loose => rfl
  | fine u r => exact ⟨rfl, rfl⟩

theorem hrel_step {S st : Rs Unit} {i : Nat} {hl : List Hd} {u : Unit} {r : Bs} {a : Hd} (h : HRel S i st hl) (hst : st = .fine u r) (ha : ∀ x r', refHd r = .fine x r' → a = x) : HRel S (i + 1) (sstep (.fine () r) refHd) (hl ++ [a]) := by
  subst hst
  cases S with
  | short => cases h
  | loose => cases h
  | fine v q =>
    unfold HRel at h ⊢
    dsimp only at h ⊢
    rw [refHs_snoc]
    cases hq : refHs i q with
    | short => rw [hq] at h; cases h
    | loose => rw [hq] at h; cases h
    | fine hs r' =>
      rw [hq] at h
      obtain ⟨h1, rfl⟩ := h
      cases h1
      unfold sstep
      dsimp only [Rs.bind]
      cases hz : refHd r with
      | short => rfl
      | loose => rfl
      | fine x r2 =>
        have := ha x r2 hz
        subst this
        exact ⟨rfl, rfl⟩

def HEnd (S st : Rs Unit) (N : Nat) (hl : List Hd) : Prop := match S with
  | .short => st = .short
  | .loose => st = .loose
  | .fine _ r => match refHs N r with
    | .short => st = .short
    | .loose => st = .loose
    | .fine hs r' => st = .fine () r' ∧ hl = hs

/-- All headers told, or none further. -/
theorem hrel_end {S st : Rs Unit} {i N : Nat} {hl : List Hd} (h : HRel S i st hl) (hi : i ≤ N) (he : i = N ∨ ∀ u r, st ≠ .fine u r) : HEnd S st N hl := by
  unfold HEnd
  cases S with
  | short => exact h
  | loose => exact h
  | fine u r =>
    unfold HRel at h
    dsimp only at h ⊢
    rcases he with rfl | he
    · exact h
    · obtain ⟨b1, b2⟩ := refHs_bad (bs := r) (i := i) N hi
      cases hq : refHs i r with
      | short => rw [hq] at h; rw [b1 hq]; exact h
      | loose => rw [hq] at h; rw [b2 hq]; exact h
      | fine hs r' => rw [hq] at h; exact (he _ _ h.1).elim

theorem hrel_many {S st : Rs Unit} {i : Nat} {hl : List Hd} {u : Unit} {r : Bs} (h : HRel S i st hl) (hst : st = .fine u r) : ∃ v q, S = .fine v q ∧ i ≤ q.length ∧ hl.length = i := by
  subst hst
  cases S with
  | short => cases h
  | loose => cases h
  | fine v q =>
    unfold HRel at h
    dsimp only at h
    cases hq : refHs i q with
    | short => rw [hq] at h; cases h
    | loose => rw [hq] at h; cases h
    | fine hs r' =>
      rw [hq] at h
      have := refHs_many hq
      exact ⟨v, q, rfl, this.1, by rw [h.2]; exact this.2⟩

section
variable {P : Program}

structure RFns (P : Program) (I : RI) : Prop where
  v32 : SvFn P I.sv 32 15 4
  v64 : SvFn P I.sv 64 1 9
  sf : SfFn P I.sf
  so : SoFn P I.so
  fail : FailFn P I.fail
  hd : ShFn P I.hd

/-- What the form's reader gives. -/
def RrFn (P : Program) (f : FuncId) : Prop := ∀ (w : World) (src : Value) (bs : Bs) (K : Value → World → Prop), Sz (fun _ => True) w src bs → bs.length ≤ 1048576 →
  (∀ x cs pos how w', Keep [] w w' → RecR (fun _ => True) w' x cs → REnd bs x how → K (.tuple #[.agg cs.toArray, .int .i64 pos, .int .i64 how]) w') → In.wp P (.call f) [src] w K

/-- The end. -/
theorem rrEnd_ok {w : World} {X R : Nat} {cs : List Value} {bv : Value} {pos how : Int} {η : Nat → Value} {K : Value → World → Prop} (h1 : η 1 = ptr X) (h3 : η 3 = ptr R) (rX : Row w X cs) (hcs : cs.length = 9) (hone : ∀ v ∈ cs, v.oneCell' = true) (hXR : X ≠ R) (rR : Row w R [bv, .int .i64 pos, .int .i64 how])
    (hk : ∀ w', Keep [X] w w' → K (.tuple #[.agg cs.toArray, .int .i64 pos, .int .i64 how]) w') : rrEnd.wp P (postP [.cells 9, .direct, .direct] K) η w := by
  refine np_draw ?_
  have kd := keep_drawn w
  generalize hw0 : ({ w with drawn := w.drawn + 1 } : World) = w0 at kd ⊢
  have rX0 := rX.keep kd (by simp)
  have rR0 := rR.keep kd (by simp)
  have ht : (cs.drop 0).take 9 = cs := by rw [List.drop_zero, List.take_of_length_le (by omega)]
  refine np_look (vs := [ptr X]) (by simp [SV.val, h1, add0]) (wp_loadN rX0 (by omega) ⟨rfl, ?_⟩)
  rw [ht]
  refine np_look (vs := [.pointer (some ⟨R, 1, none⟩)]) (by simp [SV.val, upd, h3, Addr.add]) (wp_load rR0 rfl ⟨rfl, ?_⟩)
  refine np_look (vs := [.pointer (some ⟨R, 2, none⟩)]) (by simp [SV.val, upd, h3, Addr.add]) (wp_load rR0 rfl ⟨rfl, ?_⟩)
  refine np_op (vs := [ptr X, .agg cs.toArray]) (by simp [SV.val, upd, h1, add0]) (wp_store rX0 (n := 9) ⟨by simp [Value.cells, hcs], by simp only [Value.cells]; simpa using hone⟩ (by omega) fun w1 r1 k1 => ?_)
  have hput : put cs 0 (Value.agg cs.toArray).cells.toList = cs := by simp [put, Value.cells]
  rw [hput] at r1
  have rR1 := rR0.keep k1 (by simpa using hXR.symm)
  refine np_keep (vs := [.pointer (some ⟨R, 2, none⟩)]) (by simp [SV.val, upd, h3, Addr.add]) (wp_load rR1 rfl ⟨by simp [upd], rfl⟩) ?_
  refine np_keep (vs := [.pointer (some ⟨R, 1, none⟩)]) (by simp [SV.val, upd, h3, Addr.add]) (wp_load rR1 rfl ⟨by simp [upd], rfl⟩) ?_
  refine np_keep (vs := [ptr X]) (by simp [SV.val, upd, h1, add0]) (wp_loadN r1 (by omega) ⟨by rw [ht]; simp [upd], rfl⟩) ?_
  refine ⟨X, 0, cs, by simp [SV.val, upd, h1, add0], by have := r1.range 0 9; rwa [ht] at this, hcs, ?_⟩
  have := hk w1 ((kd.mono (A' := [X]) fun x hx _ => by cases hx).then k1)
  show K (pack [.agg cs.toArray, _, _]) w1
  simpa [SV.val, upd, pack] using this

/-- The length held against the octets. -/
theorem rrTail_ok {fail : FuncId} (hF : FailFn P fail) {w : World} {X R : Nat} {x0 : Int} {cs : List Value} {bv : Value} {l : Bs} {S8 : Rs Unit} {pos1 : Nat} {b0len : Int} {η : Nat → Value} {K : Value → World → Prop} {x : Rec} (h1 : η 1 = ptr X) (h3 : η 3 = ptr R) (h7 : η 7 = .int .i64 (pos1 : Int))
    (rX : Row w X (.int .i32 x.len :: cs)) (hcs : cs.length = 8) (hone : ∀ v ∈ cs, v.oneCell' = true) (hXR : X ≠ R) (hs : SRow w R bv l S8) (hll : l.length ≤ 1048576) (hp1 : pos1 ≤ l.length) (hb0 : b0len = (l.length : Int) - pos1) (hlen : -2147483648 ≤ x.len ∧ x.len < 2147483648)
    (href : refRec l = finS x b0len S8)
    (hk : ∀ pos how w', Keep [X, R] w w' → REnd l x how → K (.tuple #[.agg (.int .i32 x.len :: cs).toArray, .int .i64 pos, .int .i64 how]) w') : (rrTail fail).wp P (postP [.cells 9, .direct, .direct] K) η w := by
  obtain ⟨pos, how, hr, hp, hso⟩ := id hs
  have kd := keep_drawn w
  refine np_draw ?_
  generalize hw0 : ({ w with drawn := w.drawn + 1 } : World) = w0 at kd ⊢
  have rX0 := rX.keep kd (by simp)
  have rR0 := hr.keep kd (by simp)
  have kd' : Keep [X, R] w w0 := kd.mono fun x hx _ => by cases hx
  have hone9 : ∀ v ∈ (Value.int .i32 x.len :: cs), v.oneCell' = true := fun v hv => by
    rcases List.mem_cons.1 hv with rfl | hv
    · rfl
    · exact hone v hv
  refine np_look (vs := [.pointer (some ⟨R, 2, none⟩)]) (by simp [SV.val, h3, Addr.add]) (wp_load rR0 rfl ⟨rfl, ?_⟩)
  refine np_look (vs := [.int .i64 how, .int .i64 0]) (by simp [SV.val, upd]) ⟨.i64, _, _, _, rfl, rfl, rfl, ?_⟩
  by_cases hz : how = 0
  · refine iT (by simp [SV.val, upd, hz]) ?_
    subst hz
    obtain ⟨u0, rfl⟩ : ∃ u, S8 = .fine u (l.drop pos) := by
      cases S8 with
      | fine u r => obtain ⟨_, rfl⟩ := hso; exact ⟨u, rfl⟩
      | short => cases hso
      | loose => cases hso
    have hb7 : (l.drop pos).length = l.length - pos := by simp
    refine np_look (vs := [ptr X]) (by simp [SV.val, upd, h1, add0]) (wp_load rX0 rfl ⟨rfl, ?_⟩)
    refine np_look (vs := [.int .i32 x.len]) (by simp [SV.val, upd]) ⟨.i32, _, rfl, rfl, ?_⟩
    rw [wrap64 x.len (by omega) (by omega)]
    refine np_look (vs := [.pointer (some ⟨R, 1, none⟩)]) (by simp [SV.val, upd, h3, Addr.add]) (wp_load rR0 rfl ⟨rfl, ?_⟩)
    refine np_look (vs := [.int .i64 (pos : Int), .int .i64 (pos1 : Int)]) (by simp [SV.val, upd, h7]) ⟨.i64, _, _, _, rfl, rfl, rfl, ?_⟩
    rw [wrap64 _ (by omega) (by omega)]
    refine np_look (vs := [.int .i64 x.len, .int .i64 ((pos : Int) - pos1)]) (by simp [SV.val, upd]) ⟨.i64, _, _, _, rfl, rfl, rfl, ?_⟩
    by_cases hl : x.len = (pos : Int) - pos1
    · show NP.wp P (.ite (.s 61) _ _ _) _ _ _
      refine iF (by simp [SV.val, upd, hl]) ?_
      refine rrEnd_ok (bv := bv) (by simp [upd, h1]) (by simp [upd, h3]) rX0 (by simp [hcs]) hone9 hXR rR0 fun w' k' => ?_
      refine hk _ _ w' (kd'.then (k'.mono fun x hx _ => by simp at hx ⊢; exact .inl hx)) ?_
      unfold REnd
      rw [href]
      unfold finS
      dsimp only
      rw [if_neg (by rw [hb7]; omega)]
      exact ⟨rfl, rfl⟩
    · show NP.wp P (.ite (.s 61) _ _ _) _ _ _
      refine iT (by simp [SV.val, upd, hl]) ?_
      refine np_op (vs := [ptr R, .int .i64 3]) (by simp [SV.val, upd, h3, add0]) (hF w0 R bv _ 0 3 _ rR0 fun u w1 k1 r1 => ?_)
      rw [if_pos rfl] at r1
      show NP.wp P rrEnd _ _ _
      refine rrEnd_ok (bv := bv) (by simp [upd, h1]) (by simp [upd, h3]) (rX0.keep k1 (by simpa using hXR)) (by simp [hcs]) hone9 hXR r1 fun w' k' => ?_
      refine hk _ _ w' ((kd'.then (k1.mono fun x hx _ => by simp at hx ⊢; exact .inr hx)).then (k'.mono fun x hx _ => by simp at hx ⊢; exact .inl hx)) ?_
      unfold REnd
      rw [href]
      unfold finS
      dsimp only
      rw [if_pos (by rw [hb7]; omega)]
  · refine iF (by simp [SV.val, upd, hz]) ?_
    show NP.wp P (.ite (.s 61) _ _ _) _ _ _
    refine iF (by simp [SV.val, upd]) ?_
    refine rrEnd_ok (bv := bv) (by simp [upd, h1]) (by simp [upd, h3]) rX0 (by simp [hcs]) hone9 hXR rR0 fun w' k' => ?_
    refine hk _ _ w' (kd'.then (k'.mono fun x hx _ => by simp at hx ⊢; exact .inl hx)) ?_
    unfold REnd
    rw [href]
    unfold finS
    cases S8 with
    | fine u r => exact (hz hso.1).elim
    | short => exact hso
    | loose => exact hso

end
end Go.Ar

/- Records held against one another. -/
namespace Go.Ar
open Go.Lx Go.Nx Go.Km Go.Mx Go.Kb

set_option linter.unusedSimpArgs false
set_option linter.unusedVariables false

theorem sz_keep {ok : Nat → Prop} {w w' : World} {v : Value} {bs : Bs} (h : Sz ok w v bs) (k : Keep [] w w') : Sz ok w' v bs := h.same (k.same fun x hx => by cases hx)

section
variable {P : Program}

theorem wp_box {n : Nat} {cs : List Value} {w : World} {K : Value → World → Prop} (hn : cs.length = n) (hk : ∀ b w', Row w' b cs → w.heap.size ≤ b → Keep [] w w' → K (ptr b) w') : In.wp P (.box n) [.agg cs.toArray] w K := by
  refine ⟨_, rfl, by simpa [Value.cells] using hn, fun e => ?_⟩
  obtain ⟨r, k⟩ := alloc_row (w := w) cs e
  exact hk _ _ r (Nat.le_refl _) k

/-! Octets. -/
def smBody : NP := .op (.bin .lss) [.s 7, .s 5] 8 <|
    .ite (.s 8)
      (.nil)
      (.exit) <|
    .draw <|
    .look (.ia 1) [.s 0, .s 7] 9 <|
    .chk 9 <|
    .look .load [.q 9 0] 10 <|
    .look (.ia 1) [.s 1, .s 7] 11 <|
    .chk 11 <|
    .look .load [.q 11 0] 12 <|
    .look (.bin .neq) [.s 10, .s 12] 13 <|
    .ite (.s 13)
      (.ret [.k (.bool false)])
      (.nil) <|
    .op (.bin .add) [.s 7, .k (.int .i64 1)] 14 <|
    .set 15 (.s 14) <|
    .set 7 (.s 15) <|
    .nil

def p_same2 : FnP := ⟨.op .len [.s 0] 2 <|
  .op .len [.s 1] 3 <|
  .op (.bin .neq) [.s 2, .s 3] 4 <|
  .ite (.s 4)
    (.ret [.k (.bool false)])
    (.nil) <|
  .op .len [.s 0] 5 <|
  .set 6 (.k (.bool false)) <|
  .set 7 (.k (.int .i64 0)) <|
  .loop smBody <|
  .ret [.k (.bool true)], [.direct]⟩

def SmFn (P : Program) (f : FuncId) : Prop := ∀ (w : World) (a b : Value) (la lb : Bs) (K : Value → World → Prop), Sz (fun _ => True) w a la → Sz (fun _ => True) w b lb → la.length ≤ 1048576 →
  (∀ t w', Keep [] w w' → (la = lb → t = true) → K (.bool t) w') → In.wp P (.call f) [a, b] w K

theorem same2_ok (hn : Named P) {f : FuncId} (hf : fnP P f 2 = some p_same2) : SmFn P f := by
  intro w a b la lb K ha hb hl hk
  refine calls_of_np hn (vs := [a, b]) hf fun η hη => ?_
  have h0 : η 0 = a := hη 0 (by simp)
  have h1 : η 1 = b := hη 1 (by simp)
  obtain ⟨aa, ca, ea, _⟩ := sz_slice ha
  obtain ⟨ab, cb, eb, _⟩ := sz_slice hb
  refine np_op (vs := [a]) (by simp [SV.val, h0]) ⟨aa, _, ca, by rw [ea], ?_⟩
  refine np_op (vs := [b]) (by simp [SV.val, upd, h1]) ⟨ab, _, cb, by rw [eb], ?_⟩
  refine np_op (vs := [goInt la.length, goInt lb.length]) (by simp [SV.val, upd]) ⟨.i64, _, _, _, rfl, rfl, ?_⟩
  by_cases hne : la.length = lb.length
  · refine iF (by simp [SV.val, upd, hne]) ?_
    refine np_op (vs := [a]) (by simp [SV.val, upd, h0]) ⟨aa, _, ca, by rw [ea], ?_⟩
    refine lp (fun m η' w' => Keep [] w w' ∧ ∃ i, i + m = la.length ∧ η' 0 = a ∧ η' 1 = b ∧ η' 5 = goInt la.length ∧ η' 7 = .int .i64 ((i : Nat) : Int)) la.length ⟨Keep.refl _ _, 0, by omega, by simp [upd, h0], by simp [upd, h1], by simp [upd], by simp [upd, SV.val]⟩ ?_
    rintro m η' w' ⟨kk, i, him, z0, z1, z5, z7⟩
    refine np_op (vs := [.int .i64 (i : Int), goInt la.length]) (by simp [SV.val, z5, z7]) ⟨.i64, _, _, _, rfl, rfl, ?_⟩
    by_cases hi : i < la.length
    · refine iT (by simp [SV.val, upd, goInt]; omega) ?_
      have kd := keep_drawn w'
      refine np_draw ?_
      generalize hw0 : ({ w' with drawn := w'.drawn + 1 } : World) = w0 at kd ⊢
      have k0 := kk.then kd
      obtain ⟨aa, ca, ea, _, ba⟩ := sz_some (sz_keep ha k0) (by intro h; subst h; simp at hi)
      obtain ⟨ab, cb, eb, _, bb⟩ := sz_some (sz_keep hb k0) (by intro h; rw [h] at hne; simp at hne; rw [hne] at hi; simp at hi)
      have hib : i < lb.length := by omega
      have hca := ba.2.2 i hi
      have hcb := bb.2.2 i hib
      refine np_look (vs := [a, .int .i64 (i : Int)]) (by simp [SV.val, upd, z0, z7]) ⟨aa, la.length, ca, .i64, i, by rw [ea], hi, rfl, ?_⟩
      rw [Nat.mul_one]
      refine ⟨⟨_, by simp only [upd]; rfl⟩, ?_⟩
      refine np_look (vs := [.pointer (some (aa.add i))]) (by simp [SV.val, upd, add0]) ⟨_, _, rfl, hca, rfl, ?_⟩
      refine np_look (vs := [b, .int .i64 (i : Int)]) (by simp [SV.val, upd, z1, z7]) ⟨ab, lb.length, cb, .i64, i, by rw [eb], hib, rfl, ?_⟩
      rw [Nat.mul_one]
      refine ⟨⟨_, by simp only [upd]; rfl⟩, ?_⟩
      refine np_look (vs := [.pointer (some (ab.add i))]) (by simp [SV.val, upd, add0]) ⟨_, _, rfl, hcb, rfl, ?_⟩
      refine np_look (vs := [u8 la[i], u8 lb[i]]) (by simp [SV.val, upd]) ⟨.u8, _, _, _, rfl, rfl, rfl, ?_⟩
      by_cases hq : la[i] = lb[i]
      · refine iF (by simp [SV.val, upd, hq]) ?_
        refine np_op (vs := [.int .i64 (i : Int), .int .i64 1]) (by simp [SV.val, upd, z7]) ⟨.i64, _, _, _, rfl, rfl, ?_⟩
        rw [wrap64 _ (by omega) (by omega)]
        exact ⟨m - 1, by omega, k0, i + 1, by omega, by simp [upd, z0], by simp [upd, z1], by simp [upd, z5], by simp [upd, SV.val]⟩
      · refine iT ?_ ?_
        · have : ((la[i].toNat : Nat) : Int) ≠ (lb[i].toNat : Nat) := fun h => hq (UInt8.toNat_inj.1 (by omega))
          simp [SV.val, upd, this]
        show K (pack _) w0
        simpa [pack, SV.val] using hk false w0 k0 (fun h => by subst h; exact (hq rfl).elim)
    · refine iF (by simp [SV.val, upd, goInt]; omega) ?_
      show K (pack _) w'
      simpa [pack, SV.val] using hk true w' kk fun _ => rfl
  · refine iT (by simp [SV.val, upd, goInt]; omega) ?_
    show K (pack _) w
    simpa [pack, SV.val] using hk false w (Keep.refl _ _) fun h => by subst h; exact (hne rfl).elim

/-! Octets that may be null. -/
abbrev u6 (k : NP) : NP := .set 12 (.k (.tuple #[])) <| .set 13 (.k (.tuple #[])) <| .set 14 (.k (.tuple #[])) <| .set 15 (.k (.tuple #[])) <| .set 16 (.k (.tuple #[])) <| .set 17 (.k (.bool true)) <| .set 18 (.k (.bool true)) <| .set 19 (.k (.bool true)) k

def p_sameOctets (same : FuncId) : FnP := ⟨.op (.box 2) [.s 0] 2 <|
  .chk 2 <|
  .op (.box 2) [.s 1] 3 <|
  .chk 3 <|
  .op .load [.q 2 0] 4 <|
  .op .load [.q 3 0] 5 <|
  .op (.eqB false) [.s 4, .s 5] 6 <|
  .ite (.s 6)
    (.op .load [.q 2 0] 7 <|
    .ite (.s 7)
      (.set 11 (.k (.bool true)) <| u6 .nil)
      (.op .load [.q 2 1] 8 <|
      .op .load [.q 3 1] 9 <|
      .op (.call same) [.s 8, .s 9] 10 <|
      .set 11 (.k (.bool false)) <|
      .set 12 (.q 2 1) <|
      .set 13 (.s 8) <|
      .set 14 (.q 3 1) <|
      .set 15 (.s 9) <|
      .set 16 (.s 10) <|
      .set 17 (.s 10) <|
      .set 18 (.s 10) <|
      .set 19 (.s 10) <|
      .nil) <|
    .set 20 (.k (.bool true)) <|
    .set 21 (.q 2 0) <|
    .set 22 (.s 7) <|
    .set 23 (.s 11) <|
    .set 24 (.s 12) <|
    .set 25 (.s 13) <|
    .set 26 (.s 14) <|
    .set 27 (.s 15) <|
    .set 28 (.s 16) <|
    .set 29 (.s 17) <|
    .set 30 (.s 18) <|
    .set 31 (.s 19) <|
    .nil)
    (.set 20 (.k (.bool false)) <|
    .set 21 (.k (.tuple #[])) <|
    .set 22 (.k (.tuple #[])) <|
    .set 23 (.k (.tuple #[])) <|
    .set 24 (.k (.tuple #[])) <|
    .set 25 (.k (.tuple #[])) <|
    .set 26 (.k (.tuple #[])) <|
    .set 27 (.k (.tuple #[])) <|
    .set 28 (.k (.tuple #[])) <|
    .set 29 (.k (.tuple #[])) <|
    .set 30 (.k (.bool false)) <|
    .set 31 (.k (.bool false)) <|
    .nil) <|
  .ret [.s 31], [.direct]⟩

def SoC (P : Program) (f : FuncId) : Prop := ∀ (w : World) (x y : Option Bs) (d1 d2 : Value) (K : Value → World → Prop), Sz (fun _ => True) w d1 (x.getD []) → Sz (fun _ => True) w d2 (y.getD []) → (x.getD []).length ≤ 1048576 →
  (∀ t w', Keep [] w w' → (x = y → t = true) → K (.bool t) w') → In.wp P (.call f) [.agg #[.bool x.isNone, d1], .agg #[.bool y.isNone, d2]] w K

theorem sameOctets_ok (hn : Named P) {f same : FuncId} (hf : fnP P f 2 = some (p_sameOctets same)) (hS : SmFn P same) : SoC P f := by
  intro w x y d1 d2 K s1 s2 hl hk
  refine calls_of_np hn (vs := [.agg #[.bool x.isNone, d1], .agg #[.bool y.isNone, d2]]) hf fun η hη => ?_
  have h0 : η 0 = .agg #[.bool x.isNone, d1] := hη 0 (by simp)
  have h1 : η 1 = .agg #[.bool y.isNone, d2] := hη 1 (by simp)
  refine np_op (vs := [.agg #[.bool x.isNone, d1]]) (by simp [SV.val, h0]) (wp_box (cs := [.bool x.isNone, d1]) rfl fun X w1 rX hX k1 => ?_)
  refine ⟨⟨_, by simp only [upd]; rfl⟩, ?_⟩
  refine np_op (vs := [.agg #[.bool y.isNone, d2]]) (by simp [SV.val, upd, h1]) (wp_box (cs := [.bool y.isNone, d2]) rfl fun Y w2 rY hY k2 => ?_)
  refine ⟨⟨_, by simp only [upd]; rfl⟩, ?_⟩
  have rX2 := rX.keep k2 (by simp)
  have k02 := k1.then k2
  refine np_op (vs := [ptr X]) (by simp [SV.val, upd, add0]) (wp_load rX2 rfl ?_)
  refine np_op (vs := [ptr Y]) (by simp [SV.val, upd, add0]) (wp_load rY rfl ?_)
  refine np_op (vs := [.bool x.isNone, .bool y.isNone]) (by simp [SV.val, upd]) ⟨_, _, rfl, ?_⟩
  by_cases hq : x.isNone = y.isNone
  · refine iT (by simp [SV.val, upd, hq]) ?_
    refine np_op (vs := [ptr X]) (by simp [SV.val, upd, add0]) (wp_load rX2 rfl ?_)
    cases x with
    | none =>
      refine iT (by simp [SV.val, upd]) ?_
      show K (pack _) w2
      simpa [pack, SV.val, upd] using hk true w2 k02 fun _ => rfl
    | some lx =>
      refine iF (by simp [SV.val, upd]) ?_
      refine np_op (vs := [.pointer (some ⟨X, 1, none⟩)]) (by simp [SV.val, upd, Addr.add]) (wp_load rX2 rfl ?_)
      refine np_op (vs := [.pointer (some ⟨Y, 1, none⟩)]) (by simp [SV.val, upd, Addr.add]) (wp_load rY rfl ?_)
      refine np_op (vs := [d1, d2]) (by simp [SV.val, upd]) (hS w2 d1 d2 _ _ _ (sz_keep s1 k02) (sz_keep s2 k02) hl fun t w3 k3 ht => ?_)
      show K (pack _) w3
      simpa [pack, SV.val, upd] using hk t w3 (k02.then k3) fun h => ht (by rw [h])
  · refine iF (by simp [SV.val, upd, hq]) ?_
    show K (pack _) w2
    simpa [pack, SV.val, upd] using hk false w2 k02 fun h => by subst h; exact (hq rfl).elim

/-! Headers. -/
def shBody (so : FuncId) : NP := .op (.bin .lss) [.s 7, .s 5] 8 <|
    .ite (.s 8)
      (.nil)
      (.exit) <|
    .draw <|
    .look (.ia 3) [.s 0, .s 7] 9 <|
    .chk 9 <|
    .look .load [.q 9 0] 10 <|
    .look (.ia 3) [.s 1, .s 7] 11 <|
    .chk 11 <|
    .look .load [.q 11 0] 12 <|
    .look (.eqS true) [.s 10, .s 12] 13 <|
    .ite (.s 13)
      (.keep (.eqS true) [.s 10, .s 12] 13 <|
      .keep .load [.q 11 0] 12 <|
      .keep (.ia 3) [.s 1, .s 7] 11 <|
      .keep .load [.q 9 0] 10 <|
      .keep (.ia 3) [.s 0, .s 7] 9 <|
      .set 20 (.k (.bool true)) <|
      .set 21 (.k (.tuple #[])) <|
      .set 22 (.k (.tuple #[])) <|
      .set 23 (.k (.tuple #[])) <|
      .set 24 (.k (.tuple #[])) <|
      .set 25 (.k (.tuple #[])) <|
      .set 26 (.k (.tuple #[])) <|
      .set 27 (.k (.tuple #[])) <|
      .set 28 (.k (.tuple #[])) <|
      .set 29 (.k (.tuple #[])) <|
      .set 30 (.k (.tuple #[])) <|
      .set 31 (.k (.tuple #[])) <|
      .set 32 (.k (.tuple #[])) <|
      .set 33 (.k (.bool true)) <|
      .nil)
      (.look (.ia 3) [.s 0, .s 7] 14 <|
      .chk 14 <|
      .look (.loadN 2) [.q 14 1] 15 <|
      .look (.ia 3) [.s 1, .s 7] 16 <|
      .chk 16 <|
      .look (.loadN 2) [.q 16 1] 17 <|
      .op (.call so) [.s 15, .s 17] 18 <|
      .keep (.loadN 2) [.q 16 1] 17 <|
      .keep (.ia 3) [.s 1, .s 7] 16 <|
      .keep (.loadN 2) [.q 14 1] 15 <|
      .keep (.ia 3) [.s 0, .s 7] 14 <|
      .keep (.eqS true) [.s 10, .s 12] 13 <|
      .keep .load [.q 11 0] 12 <|
      .keep (.ia 3) [.s 1, .s 7] 11 <|
      .keep .load [.q 9 0] 10 <|
      .keep (.ia 3) [.s 0, .s 7] 9 <|
      .look .not [.s 18] 19 <|
      .set 20 (.k (.bool false)) <|
      .set 21 (.s 0) <|
      .set 22 (.s 7) <|
      .set 23 (.q 14 0) <|
      .set 24 (.q 14 1) <|
      .set 25 (.s 15) <|
      .set 26 (.s 1) <|
      .set 27 (.s 7) <|
      .set 28 (.q 16 0) <|
      .set 29 (.q 16 1) <|
      .set 30 (.s 17) <|
      .set 31 (.s 18) <|
      .set 32 (.s 19) <|
      .set 33 (.s 19) <|
      .nil) <|
    .ite (.s 33)
      (.ret [.k (.bool false)])
      (.nil) <|
    .op (.bin .add) [.s 7, .k (.int .i64 1)] 34 <|
    .set 35 (.s 34) <|
    .set 7 (.s 35) <|
    .nil

def p_sameHeaders (so : FuncId) : FnP := ⟨.op .len [.s 0] 2 <|
  .op .len [.s 1] 3 <|
  .op (.bin .neq) [.s 2, .s 3] 4 <|
  .ite (.s 4)
    (.ret [.k (.bool false)])
    (.nil) <|
  .op .len [.s 0] 5 <|
  .set 6 (.k (.bool false)) <|
  .set 7 (.k (.int .i64 0)) <|
  .loop (shBody so) <|
  .ret [.k (.bool true)], [.direct]⟩

def ShC (P : Program) (f : FuncId) : Prop := ∀ (w : World) (l1 l2 : List Hd) (v1 v2 : Value) (K : Value → World → Prop), HdR (fun _ => True) w l1 v1 → HdR (fun _ => True) w l2 v2 → l1.length ≤ 1048576 → (∀ h ∈ l1, (h.2.getD []).length ≤ 1048576) →
  (∀ t w', Keep [] w w' → (l1 = l2 → t = true) → K (.bool t) w') → In.wp P (.call f) [v1, v2] w K

theorem HdR.len {ok : Nat → Prop} {w : World} {l : List Hd} {v : Value} (h : HdR ok w l v) : ∃ a c, v = .slice a l.length c := by
  rcases h with ⟨rfl, rfl⟩ | ⟨H, c, cs, rfl, _⟩
  · exact ⟨none, 0, rfl⟩
  · exact ⟨_, c, rfl⟩

/-- The i-th header, where it lies. -/
theorem HdR.at {ok : Nat → Prop} {w : World} {l : List Hd} {v : Value} (h : HdR ok w l v) {i : Nat} (hi : i < l.length) : ∃ H c cs d, v = .slice (some ⟨H, 0, none⟩) l.length c ∧ Row w H cs ∧ cs[i * 3]? = some (.string ⟨(l[i]).1.toArray⟩) ∧ i * 3 + 1 + 2 ≤ cs.length ∧ (cs.drop (i * 3 + 1)).take 2 = [.bool (l[i]).2.isNone, d] ∧ Sz ok w d ((l[i]).2.getD []) := by
  rcases h with ⟨rfl, rfl⟩ | ⟨H, c, cs, rfl, hr, hx⟩
  · simp at hi
  · obtain ⟨h1, h2⟩ := hx
    obtain ⟨p1, p2, d, p3, p4⟩ := h2 i hi
    rw [List.getElem?_take] at p1 p2 p3
    rw [if_pos (by omega)] at p1 p2 p3
    have hlen : i * 3 + 2 < cs.length := (List.getElem?_eq_some_iff.1 p3).1
    refine ⟨H, c, cs, d, rfl, hr, p1, by omega, ?_, p4⟩
    apply List.ext_getElem?
    intro j
    rw [List.getElem?_take]
    rcases j with _ | _ | j
    · simpa [List.getElem?_drop] using p2
    · simpa [List.getElem?_drop] using p3
    · simp; omega

theorem HdR.keep {ok : Nat → Prop} {w w' : World} {l : List Hd} {v : Value} (h : HdR ok w l v) (k : Keep [] w w') : HdR ok w' l v := by
  rcases h with h | ⟨H, c, cs, h1, h2, h3⟩
  · exact .inl h
  · exact .inr ⟨H, c, cs, h1, h2.keep k (by simp), h3.same (k.same fun x hx => by cases hx)⟩

theorem sameHeaders_ok (hn : Named P) {f so : FuncId} (hf : fnP P f 2 = some (p_sameHeaders so)) (hS : SoC P so) : ShC P f := by
  intro w l1 l2 v1 v2 K r1 r2 hl hlim hk
  refine calls_of_np hn (vs := [v1, v2]) hf fun η hη => ?_
  have h0 : η 0 = v1 := hη 0 (by simp)
  have h1 : η 1 = v2 := hη 1 (by simp)
  obtain ⟨aa, ca, ea⟩ := r1.len
  obtain ⟨ab, cb, eb⟩ := r2.len
  refine np_op (vs := [v1]) (by simp [SV.val, h0]) ⟨aa, _, ca, by rw [ea], ?_⟩
  refine np_op (vs := [v2]) (by simp [SV.val, upd, h1]) ⟨ab, _, cb, by rw [eb], ?_⟩
  refine np_op (vs := [goInt l1.length, goInt l2.length]) (by simp [SV.val, upd]) ⟨.i64, _, _, _, rfl, rfl, ?_⟩
  by_cases hne : l1.length = l2.length
  · refine iF (by simp [SV.val, upd, hne]) ?_
    refine np_op (vs := [v1]) (by simp [SV.val, upd, h0]) ⟨aa, _, ca, by rw [ea], ?_⟩
    refine lp (fun m η' w' => Keep [] w w' ∧ ∃ i, i + m = l1.length ∧ η' 0 = v1 ∧ η' 1 = v2 ∧ η' 5 = goInt l1.length ∧ η' 7 = .int .i64 ((i : Nat) : Int)) l1.length ⟨Keep.refl _ _, 0, by omega, by simp [upd, h0], by simp [upd, h1], by simp [upd], by simp [upd, SV.val]⟩ ?_
    rintro m η' w' ⟨kk, i, him, z0, z1, z5, z7⟩
    refine np_op (vs := [.int .i64 (i : Int), goInt l1.length]) (by simp [SV.val, z5, z7]) ⟨.i64, _, _, _, rfl, rfl, ?_⟩
    by_cases hi : i < l1.length
    · refine iT (by simp [SV.val, upd, goInt]; omega) ?_
      have kd := keep_drawn w'
      refine np_draw ?_
      generalize hw0 : ({ w' with drawn := w'.drawn + 1 } : World) = w0 at kd ⊢
      have k0 := kk.then kd
      have hi2 : i < l2.length := by omega
      obtain ⟨H1, c1, cs1, d1, e1, q1, p1, n1, t1, s1⟩ := (r1.keep k0).at hi
      obtain ⟨H2, c2, cs2, d2, e2, q2, p2, n2, t2, s2⟩ := (r2.keep k0).at hi2
      have ha1 : (⟨H1, 0, none⟩ : Addr).add (i * 3) = ⟨H1, i * 3, none⟩ := by simp [Addr.add]; omega
      have ha2 : (⟨H2, 0, none⟩ : Addr).add (i * 3) = ⟨H2, i * 3, none⟩ := by simp [Addr.add]; omega
      have ia1 : ∀ {w1 : World} {K1 : Value → World → Prop}, K1 (.pointer (some ⟨H1, i * 3, none⟩)) w1 → In.wp P (.ia 3) [v1, .int .i64 (i : Int)] w1 K1 := fun {w1 K1} h => ⟨⟨H1, 0, none⟩, l1.length, c1, .i64, i, by rw [e1], hi, by rw [ha1]; exact h⟩
      have ia2 : ∀ {w1 : World} {K1 : Value → World → Prop}, K1 (.pointer (some ⟨H2, i * 3, none⟩)) w1 → In.wp P (.ia 3) [v2, .int .i64 (i : Int)] w1 K1 := fun {w1 K1} h => ⟨⟨H2, 0, none⟩, l2.length, c2, .i64, i, by rw [e2], hi2, by rw [ha2]; exact h⟩
      refine np_look (vs := [v1, .int .i64 (i : Int)]) (by simp [SV.val, upd, z0, z7]) (ia1 ⟨rfl, ?_⟩)
      refine ⟨⟨_, by simp only [upd]; rfl⟩, ?_⟩
      refine np_look (vs := [.pointer (some ⟨H1, i * 3, none⟩)]) (by simp [SV.val, upd, Addr.add]) (wp_load q1 p1 ⟨rfl, ?_⟩)
      refine np_look (vs := [v2, .int .i64 (i : Int)]) (by simp [SV.val, upd, z1, z7]) (ia2 ⟨rfl, ?_⟩)
      refine ⟨⟨_, by simp only [upd]; rfl⟩, ?_⟩
      refine np_look (vs := [.pointer (some ⟨H2, i * 3, none⟩)]) (by simp [SV.val, upd, Addr.add]) (wp_load q2 p2 ⟨rfl, ?_⟩)
      have heq : ∀ {w1 : World} {K1 : Value → World → Prop}, K1 (.bool (((l1[i]).1 == (l2[i]).1) != true)) w1 → In.wp P (.eqS true) [.string ⟨(l1[i]).1.toArray⟩, .string ⟨(l2[i]).1.toArray⟩] w1 K1 := fun {w1 K1} h => by
        refine ⟨_, _, rfl, ?_⟩
        have e : ∀ l : Bs, (⟨l.toArray⟩ : ByteArray).toList = l := fun l => by rw [Lib.toList_data]
        rw [e, e]; exact h
      refine np_look (vs := [.string ⟨(l1[i]).1.toArray⟩, .string ⟨(l2[i]).1.toArray⟩]) (by simp [SV.val, upd]) (heq ⟨rfl, ?_⟩)
      by_cases hq : (l1[i]).1 = (l2[i]).1
      · refine iF (by simp [SV.val, upd, hq]) ?_
        refine np_look (vs := [v1, .int .i64 (i : Int)]) (by simp [SV.val, upd, z0, z7]) (ia1 ⟨rfl, ?_⟩)
        refine ⟨⟨_, by simp only [upd]; rfl⟩, ?_⟩
        refine np_look (vs := [.pointer (some ⟨H1, i * 3 + 1, none⟩)]) (by simp [SV.val, upd, Addr.add]) (wp_loadN q1 n1 ⟨rfl, ?_⟩)
        rw [t1]
        refine np_look (vs := [v2, .int .i64 (i : Int)]) (by simp [SV.val, upd, z1, z7]) (ia2 ⟨rfl, ?_⟩)
        refine ⟨⟨_, by simp only [upd]; rfl⟩, ?_⟩
        refine np_look (vs := [.pointer (some ⟨H2, i * 3 + 1, none⟩)]) (by simp [SV.val, upd, Addr.add]) (wp_loadN q2 n2 ⟨rfl, ?_⟩)
        rw [t2]
        refine np_op (vs := [.agg #[.bool (l1[i]).2.isNone, d1], .agg #[.bool (l2[i]).2.isNone, d2]]) (by simp [SV.val, upd]) (hS w0 _ _ d1 d2 _ s1 s2 (hlim _ (List.getElem_mem hi)) fun t w1 k1 ht => ?_)
        have q1' := q1.keep k1 (by simp)
        have q2' := q2.keep k1 (by simp)
        refine np_keep (vs := [.pointer (some ⟨H2, i * 3 + 1, none⟩)]) (by simp [SV.val, upd, Addr.add]) (wp_loadN q2' n2 ⟨by rw [t2]; simp [upd], rfl⟩) ?_
        refine np_keep (vs := [v2, .int .i64 (i : Int)]) (by simp [SV.val, upd, z1, z7]) (ia2 ⟨by simp [upd], rfl⟩) ?_
        refine np_keep (vs := [.pointer (some ⟨H1, i * 3 + 1, none⟩)]) (by simp [SV.val, upd, Addr.add]) (wp_loadN q1' n1 ⟨by rw [t1]; simp [upd], rfl⟩) ?_
        refine np_keep (vs := [v1, .int .i64 (i : Int)]) (by simp [SV.val, upd, z0, z7]) (ia1 ⟨by simp [upd], rfl⟩) ?_
        refine np_keep (vs := [.string ⟨(l1[i]).1.toArray⟩, .string ⟨(l2[i]).1.toArray⟩]) (by simp [SV.val, upd]) (heq ⟨by simp [upd], rfl⟩) ?_
        refine np_keep (vs := [.pointer (some ⟨H2, i * 3, none⟩)]) (by simp [SV.val, upd, Addr.add]) (wp_load q2' p2 ⟨by simp [upd], rfl⟩) ?_
        refine np_keep (vs := [v2, .int .i64 (i : Int)]) (by simp [SV.val, upd, z1, z7]) (ia2 ⟨by simp [upd], rfl⟩) ?_
        refine np_keep (vs := [.pointer (some ⟨H1, i * 3, none⟩)]) (by simp [SV.val, upd, Addr.add]) (wp_load q1' p1 ⟨by simp [upd], rfl⟩) ?_
        refine np_keep (vs := [v1, .int .i64 (i : Int)]) (by simp [SV.val, upd, z0, z7]) (ia1 ⟨by simp [upd], rfl⟩) ?_
        refine np_look (vs := [.bool t]) (by simp [SV.val, upd]) ⟨_, rfl, rfl, ?_⟩
        show NP.wp P (.ite (.s 33) _ _ _) _ _ w1
        cases t with
        | true =>
          refine iF (by simp [SV.val, upd]) ?_
          refine np_op (vs := [.int .i64 (i : Int), .int .i64 1]) (by simp [SV.val, upd, z7]) ⟨.i64, _, _, _, rfl, rfl, ?_⟩
          rw [wrap64 _ (by omega) (by omega)]
          exact ⟨m - 1, by omega, k0.then k1, i + 1, by omega, by simp [upd, z0], by simp [upd, z1], by simp [upd, z5], by simp [upd, SV.val]⟩
        | false =>
          refine iT (by simp [SV.val, upd]) ?_
          show K (pack _) w1
          simpa [pack, SV.val] using hk false w1 (k0.then k1) fun h => by subst h; exact ht rfl
      · refine iT (by simp [SV.val, upd, hq]) ?_
        refine np_keep (vs := [.string ⟨(l1[i]).1.toArray⟩, .string ⟨(l2[i]).1.toArray⟩]) (by simp [SV.val, upd]) (heq ⟨by simp [upd], rfl⟩) ?_
        refine np_keep (vs := [.pointer (some ⟨H2, i * 3, none⟩)]) (by simp [SV.val, upd, Addr.add]) (wp_load q2 p2 ⟨by simp [upd], rfl⟩) ?_
        refine np_keep (vs := [v2, .int .i64 (i : Int)]) (by simp [SV.val, upd, z1, z7]) (ia2 ⟨by simp [upd], rfl⟩) ?_
        refine np_keep (vs := [.pointer (some ⟨H1, i * 3, none⟩)]) (by simp [SV.val, upd, Addr.add]) (wp_load q1 p1 ⟨by simp [upd], rfl⟩) ?_
        refine np_keep (vs := [v1, .int .i64 (i : Int)]) (by simp [SV.val, upd, z0, z7]) (ia1 ⟨by simp [upd], rfl⟩) ?_
        show NP.wp P (.ite (.s 33) _ _ _) _ _ w0
        refine iT (by simp [SV.val, upd]) ?_
        show K (pack _) w0
        simpa [pack, SV.val] using hk false w0 k0 fun h => by subst h; exact (hq rfl).elim
    · refine iF (by simp [SV.val, upd, goInt]; omega) ?_
      show K (pack _) w'
      simpa [pack, SV.val] using hk true w' kk fun _ => rfl
  · refine iT (by simp [SV.val, upd, goInt]; omega) ?_
    show K (pack _) w
    simpa [pack, SV.val] using hk false w (Keep.refl _ _) fun h => by subst h; exact (hne rfl).elim

end
end Go.Ar

/- THE FORM'S READER READS A RECORD: from the first octet to the last. -/
namespace Go.Ar
open Go.Lx Go.Nx Go.Km Go.Mx Go.Kb

set_option linter.unusedSimpArgs false
set_option linter.unusedVariables false

section
variable {P : Program}


theorem readRecord_ok (hn : Named P) {I : RI} (F : RFns P I) {f : FuncId} (hf : fnP P f 1 = some (p_readRecord I)) : RrFn P f := by
  intro w src bs K hsl hll hk
  refine calls_of_np hn (vs := [src]) hf fun η hη => ?_
  have h0 : η 0 = src := hη 0 (by simp)
  have hs1 : One src := oneZ hsl
  let ok : Nat → Prop := fun k => k < w.heap.size
  have hslk : Sz ok w src bs := hsl.weak fun b hb _ => hb
  have K0 : ∀ {wa wb : World} {A : List Nat}, Keep [] w wa → Keep A wa wb → (∀ x ∈ A, w.heap.size ≤ x) → Keep [] w wb := fun ka kb hA => ka.trans kb fun x hx hlt => by have := hA x hx; omega
  have sameOk : ∀ {wa wb : World}, Keep [] w wa → Keep [] w wb → wa.heap.size ≤ wb.heap.size → Same ok wa wb := fun {wa wb} ka kb hab => ⟨hab, fun k hk ho => by
    rw [kb.block k ho (by simp), ka.block k ho (by simp)]⟩
  refine np_op (vs := []) rfl (wp_alloc fun X w1 r1 hX k1 => ?_)
  refine ⟨⟨_, by simp only [upd]; rfl⟩, ?_⟩
  have hX1 := r1.lt
  refine np_op (vs := [src]) (by simp [SV.val, upd, h0]) ⟨rfl, fun v hv => by simp at hv; subst hv; exact ⟨by rw [hs1.1]; rfl, hs1.list⟩, ?_⟩
  refine np_op (vs := [.agg #[src, .int .i64 ((0 : Nat) : Int), .int .i64 0]]) (by simp [SV.val, upd, putAll]) (wp_box (cs := [src, .int .i64 ((0 : Nat) : Int), .int .i64 0]) rfl fun R w2 rR2 hR kR => ?_)
  refine ⟨⟨_, by simp only [upd]; rfl⟩, ?_⟩
  have hsz1 := k1.size
  have hRw : w.heap.size ≤ R := by omega
  have hXR : X ≠ R := by omega
  have hAR : ∀ x ∈ [R], w.heap.size ≤ x := fun x hx => by simp at hx; omega
  have hAX : ∀ x ∈ [X], w.heap.size ≤ x := fun x hx => by simp at hx; omega
  have c2 : Keep [] w w2 := k1.then kR
  have r2 := r1.keep kR (by simp)
  have nR : ¬ ok R := fun h => by have h : R < w.heap.size := h; omega
  have se : ∀ {w' : World}, Keep [] w w' → SE ok w' R src bs := fun k => ⟨nR, fun q hq => Nat.lt_of_lt_of_le hq k.size, hslk.same (k.same fun x hx => by cases hx), hll⟩
  have s2 : SRow w2 R src bs (.fine () bs) := ⟨0, 0, rR2, Nat.zero_le _, rfl, by simp⟩
  have nX : X ∉ [R] := by simpa using hXR
  have nR' : R ∉ [X] := by simpa using hXR.symm
  -- the length
  refine np_op (vs := [ptr R, .int .i64 ((32 : Nat) : Int)]) (by simp [SV.val, upd, add0]) (F.v32 ok w2 R src bs _ _ nR (se c2).sl hll s2 fun a w3 k3 s3 va => ?_)
  have va : VV (.fine () bs) (refV 15 4) a := va
  have ra := va.rng refV32_rng (by omega)
  have c3 := K0 c2 k3 hAR
  have r3 := r2.keep k3 nX
  refine np_op (vs := [.int .i64 a]) (by simp [SV.val, upd]) ⟨.i64, _, rfl, ?_⟩
  rw [wrap32 a ra.1 ra.2]
  refine np_op (vs := [ptr X, .int .i32 a]) (by simp [SV.val, upd, add0]) (wp_store r3 (Fit.one rfl rfl) (by simp) fun w4 r4 k4 => ?_)
  have r4 : Row w4 X [.int .i32 a, .int .i8 0, .int .i64 0, .int .i32 0, .bool false, .slice none 0 0, .bool false, .slice none 0 0, .slice none 0 0] := r4
  have c4 := K0 c3 k4 hAX
  have s4 := s3.keep k4 nR'
  obtain ⟨pos1, how1, rR4, hp1, so1⟩ := id s4
  refine np_op (vs := [.pointer (some ⟨R, 1, none⟩)]) (by simp [SV.val, upd, Addr.add]) (wp_load rR4 rfl ?_)
  have v1 : ∀ x r, refV 15 4 bs = .fine x r → a = x ∧ (bs.length : Int) - pos1 = r.length := fun x r e => by
    refine ⟨va.val x r e, ?_⟩
    unfold sstep at so1
    dsimp only [Rs.bind] at so1
    rw [e] at so1
    obtain ⟨_, rfl⟩ : how1 = 0 ∧ r = bs.drop pos1 := so1
    simp; omega
  -- the attributes
  refine np_op (vs := [ptr R, .int .i64 1]) (by simp [SV.val, upd, add0]) (F.sf ok w4 R src bs _ _ nR (se c4).sl hll s4 fun b w5 k5 s5 vb => ?_)
  have vb : VV _ refI8 b := vb
  have rb := vb.rng refI8_rng (by omega)
  have c5 := K0 c4 k5 hAR
  have r5 := r4.keep k5 nX
  refine np_op (vs := [.int .i64 b]) (by simp [SV.val, upd]) ⟨.i64, _, rfl, ?_⟩
  rw [wrap8 b rb.1 rb.2]
  refine np_op (vs := [.pointer (some ⟨X, 1, none⟩), .int .i8 b]) (by simp [SV.val, upd, Addr.add]) (wp_store r5 (Fit.one rfl rfl) (by simp) fun w6 r6 k6 => ?_)
  have r6 : Row w6 X [.int .i32 a, .int .i8 b, .int .i64 0, .int .i32 0, .bool false, .slice none 0 0, .bool false, .slice none 0 0, .slice none 0 0] := r6
  have c6 := K0 c5 k6 hAX
  have s6 := s5.keep k6 nR'
  -- the time
  refine np_op (vs := [ptr R, .int .i64 ((64 : Nat) : Int)]) (by simp [SV.val, upd, add0]) (F.v64 ok w6 R src bs _ _ nR (se c6).sl hll s6 fun c w7 k7 s7 vc => ?_)
  have vc : VV _ (refV 1 9) c := vc
  have c7 := K0 c6 k7 hAR
  have r7 := r6.keep k7 nX
  refine np_op (vs := [.pointer (some ⟨X, 2, none⟩), .int .i64 c]) (by simp [SV.val, upd, Addr.add]) (wp_store r7 (Fit.one rfl rfl) (by simp) fun w8 r8 k8 => ?_)
  have r8 : Row w8 X [.int .i32 a, .int .i8 b, .int .i64 c, .int .i32 0, .bool false, .slice none 0 0, .bool false, .slice none 0 0, .slice none 0 0] := r8
  have c8 := K0 c7 k8 hAX
  have s8 := s7.keep k8 nR'
  -- the place
  refine np_op (vs := [ptr R, .int .i64 ((32 : Nat) : Int)]) (by simp [SV.val, upd, add0]) (F.v32 ok w8 R src bs _ _ nR (se c8).sl hll s8 fun d w9 k9 s9 vd => ?_)
  have vd : VV _ (refV 15 4) d := vd
  have rd := vd.rng refV32_rng (by omega)
  have c9 := K0 c8 k9 hAR
  have r9 := r8.keep k9 nX
  refine np_op (vs := [.int .i64 d]) (by simp [SV.val, upd]) ⟨.i64, _, rfl, ?_⟩
  rw [wrap32 d rd.1 rd.2]
  refine np_op (vs := [.pointer (some ⟨X, 3, none⟩), .int .i32 d]) (by simp [SV.val, upd, Addr.add]) (wp_store r9 (Fit.one rfl rfl) (by simp) fun w10 r10 k10 => ?_)
  have r10 : Row w10 X [.int .i32 a, .int .i8 b, .int .i64 c, .int .i32 d, .bool false, .slice none 0 0, .bool false, .slice none 0 0, .slice none 0 0] := r10
  have c10 := K0 c9 k10 hAX
  have s10 := s9.keep k10 nR'
  -- key and value
  refine vo_ok F.v32 F.so (se c10) s10 (by simp [SV.val, upd, add0]) (fun v => by simp [SV.val, upd, add0]) fun u1 ko dk w11 k11 s11 hdk vko => ?_
  have c11 := K0 c10 k11 hAR
  have r11 := r10.keep k11 nX
  have hdk1 : One dk := oneZ hdk
  refine np_op (vs := [.pointer (some ⟨X, 4, none⟩), .agg #[.bool ko.isNone, dk]]) (by simp [SV.val, upd, Addr.add]) (wp_store r11 (n := 2) ⟨rfl, by have := hdk1.2; simp only [Value.cells]; simp [this]; rfl⟩ (by simp) fun w12 r12 k12 => ?_)
  have r12 : Row w12 X [.int .i32 a, .int .i8 b, .int .i64 c, .int .i32 d, .bool ko.isNone, dk, .bool false, .slice none 0 0, .slice none 0 0] := r12
  have c12 := K0 c11 k12 hAX
  have s12 := s11.keep k12 nR'
  refine vo_ok F.v32 F.so (se c12) s12 (by simp [SV.val, upd, add0]) (fun v => by simp [SV.val, upd, add0]) fun u2 vo dv w13 k13 s13 hdv vvo => ?_
  have c13 := K0 c12 k13 hAR
  have r13 := r12.keep k13 nX
  have hdv1 : One dv := oneZ hdv
  refine np_op (vs := [.pointer (some ⟨X, 6, none⟩), .agg #[.bool vo.isNone, dv]]) (by simp [SV.val, upd, Addr.add]) (wp_store r13 (n := 2) ⟨rfl, by have := hdv1.2; simp only [Value.cells]; simp [this]; rfl⟩ (by simp) fun w14 r14 k14 => ?_)
  have r14 : Row w14 X [.int .i32 a, .int .i8 b, .int .i64 c, .int .i32 d, .bool ko.isNone, dk, .bool vo.isNone, dv, .slice none 0 0] := r14
  have c14 := K0 c13 k14 hAX
  have s14 := s13.keep k14 nR'
  -- the headers' number
  refine np_op (vs := [ptr R, .int .i64 ((32 : Nat) : Int)]) (by simp [SV.val, upd, add0]) (F.v32 ok w14 R src bs _ _ nR (se c14).sl hll s14 fun n w15 k15 s15 vn => ?_)
  have vn' : VV _ (refV 15 4) n := vn
  have rn := vn'.rng refV32_rng (by omega)
  have c15 := K0 c14 k15 hAR
  have r15 := r14.keep k15 nX
  have key : ∀ (η' : Nat → Value) (w16 : World) (S7 : Rs Unit), η' 1 = ptr X → η' 3 = ptr R → η' 7 = .int .i64 (pos1 : Int) → η' 22 = .int .i64 n → Keep [R] w15 w16 → SRow w16 R src bs S7 → S7 = (if n < 0 then failS (sstep (sstep (sstep (sstep (sstep (sstep (sstep (.fine () bs) (refV 15 4)) refI8) (refV 1 9)) (refV 15 4)) refOc) refOc) (refV 15 4)) 3 else (sstep (sstep (sstep (sstep (sstep (sstep (sstep (.fine () bs) (refV 15 4)) refI8) (refV 1 9)) (refV 15 4)) refOc) refOc) (refV 15 4))) →
      NP.wp P (.set 25 (.k (.int .i64 0)) <| .loop (rrBody I.hd I.eG) <| rrTail I.fail) (postP [.cells 9, .direct, .direct] K) η' w16 := by
    intro η' w16 S7 z1 z3 z7 z22 k16 s16 e7
    have c16 := K0 c15 k16 hAR
    have r16 := r15.keep k16 nX
    have hXl := r16.lt
    have hRl : R < w16.heap.size := by obtain ⟨_, _, hr, _⟩ := s16; exact hr.lt
    let pre : List Value := [.int .i32 a, .int .i8 b, .int .i64 c, .int .i32 d, .bool ko.isNone, dk, .bool vo.isNone, dv]
    refine lp (fun m η2 w' => ∃ (i : Nat) (st : Rs Unit) (hl : List Hd), i + m = n.toNat ∧ LIn w ok X R w16.heap.size src bs pre I.eG n pos1 i st hl η2 w' ∧ HRel S7 i st hl) n.toNat
      ⟨0, S7, [], by omega, ⟨by simp [upd, z1], by simp [upd, z3], by simp [upd, z7], by simp [upd, z22], by simp [upd, SV.val], c16, Nat.le_refl _, s16, .slice none 0 0, [], r16, ⟨rfl, .inl ⟨rfl, rfl⟩⟩, xsR_nil _ _⟩, hrel_zero S7⟩ ?_
    rintro m η2 w' ⟨i, st, hl, him, hin, hrel⟩
    have many : ∀ u r, st = .fine u r → i ≤ 1048576 ∧ hl.length ≤ 1048576 := fun u r e => by
      obtain ⟨v, q, eS, g1, g2⟩ := hrel_many hrel e
      have hq : q.length ≤ bs.length := by
        subst eS
        obtain ⟨p, _, hp, hq⟩ := srow_fine s16
        rw [hq]; simp
      omega
    -- behind the loop
    have out : ∀ (η3 : Nat → Value), η3 1 = ptr X → η3 3 = ptr R → η3 7 = .int .i64 (pos1 : Int) → (i = n.toNat ∨ ∀ u r, st ≠ .fine u r) → NP.wp P (rrTail I.fail) (postP [.cells 9, .direct, .direct] K) η3 w' := by
      intro η3 y1 y3 y7 hend
      obtain ⟨hs, xs, rX, ow, hx⟩ := hin.rest
      have hho := owns_one ow
      have hcw := hin.keep
      have hgX : ∀ g, hs.ownBlock = some g → g ∉ [X, R] := fun g hg hm => by
        have := owns_lt ow g hg
        simp at hm; omega
      have href : refRec bs = finS ⟨a, b, c, d, ko, vo, hl⟩ ((bs.length : Int) - pos1) st :=
        rec_fin rfl v1 rfl vb.val rfl vc.val rfl vd.val rfl vko rfl vvo rfl vn (by
          have hrel' := hrel
          rw [e7] at hrel'
          have he := hrel_end hrel' (N := n.toNat) (by omega) hend
          unfold HEnd at he
          exact he)
      refine rrTail_ok (x := ⟨a, b, c, d, ko, vo, hl⟩) (x0 := 0) (cs := [.int .i8 b, .int .i64 c, .int .i32 d, .bool ko.isNone, dk, .bool vo.isNone, dv, hs]) F.fail y1 y3 y7 rX rfl ?_ hXR hin.srow hll hp1 rfl ra href fun pos how w'' kk hre => ?_
      · intro v hv
        simp only [List.mem_cons, List.not_mem_nil, or_false] at hv
        rcases hv with h | h | h | h | h | h | h | h
        · rw [h]; rfl
        · rw [h]; rfl
        · rw [h]; rfl
        · rw [h]; rfl
        · rw [h]; exact hdk1.2
        · rw [h]; rfl
        · rw [h]; exact hdv1.2
        · rw [h]; exact hho.2
      · have cf : Keep [] w w'' := K0 hin.keep kk fun x hx => by simp at hx; rcases hx with rfl | rfl <;> omega
        have hszk := kk.size
        have hB := hin.size
        refine hk ⟨a, b, c, d, ko, vo, hl⟩ _ pos how w'' cf ⟨dk, dv, hs, rfl, ?_, ?_, ?_⟩ hre
        · exact (hdk.same (sameOk c11 cf (by have := k12.size; have := k13.size; have := k14.size; have := k15.size; have := k16.size; omega))).weak fun _ _ _ => trivial
        · exact (hdv.same (sameOk c13 cf (by have := k14.size; have := k15.size; have := k16.size; omega))).weak fun _ _ _ => trivial
        · exact own_hd (owns_keep ow kk hgX) ((hx.same (sameOk hin.keep cf hszk)).weak fun _ _ _ => trivial)
    by_cases hi : (i : Int) < n
    · cases hst : st with
      | fine u r =>
        subst hst
        have hm := many u r rfl
        exact lround F.hd (fun k => Iff.rfl) rfl (by omega) (by omega) hXR hXl hRl hslk hll hi hm.1 hm.2 hin fun η3 w3 y hy hin' => ⟨m - 1, by omega, i + 1, _, _, by omega, hin', hrel_step hrel rfl hy⟩
      | short =>
        obtain ⟨pos, how, hr, hz, _⟩ := srow_bad hin.srow (fun u r e => by rw [hst] at e; cases e)
        refine np_op (vs := [.int .i64 (i : Int), .int .i64 n]) (by simp [SV.val, hin.h25, hin.h22]) ⟨.i64, _, _, _, rfl, rfl, ?_⟩
        refine iT (by simp [SV.val, upd]; omega) ?_
        refine np_op (vs := [.pointer (some ⟨R, 2, none⟩)]) (by simp [SV.val, upd, hin.h3, Addr.add]) (wp_load hr rfl ?_)
        refine np_op (vs := [.int .i64 how, .int .i64 0]) (by simp [SV.val, upd]) ⟨.i64, _, _, _, rfl, rfl, ?_⟩
        show NP.wp P (.ite (.s 35) _ _ _) _ _ _
        refine iF (by simp [SV.val, upd, hz]) ?_
        exact out _ (by simp [upd, hin.h1]) (by simp [upd, hin.h3]) (by simp [upd, hin.h7]) (.inr fun u r e => by rw [hst] at e; cases e)
      | loose =>
        obtain ⟨pos, how, hr, hz, _⟩ := srow_bad hin.srow (fun u r e => by rw [hst] at e; cases e)
        refine np_op (vs := [.int .i64 (i : Int), .int .i64 n]) (by simp [SV.val, hin.h25, hin.h22]) ⟨.i64, _, _, _, rfl, rfl, ?_⟩
        refine iT (by simp [SV.val, upd]; omega) ?_
        refine np_op (vs := [.pointer (some ⟨R, 2, none⟩)]) (by simp [SV.val, upd, hin.h3, Addr.add]) (wp_load hr rfl ?_)
        refine np_op (vs := [.int .i64 how, .int .i64 0]) (by simp [SV.val, upd]) ⟨.i64, _, _, _, rfl, rfl, ?_⟩
        show NP.wp P (.ite (.s 35) _ _ _) _ _ _
        refine iF (by simp [SV.val, upd, hz]) ?_
        exact out _ (by simp [upd, hin.h1]) (by simp [upd, hin.h3]) (by simp [upd, hin.h7]) (.inr fun u r e => by rw [hst] at e; cases e)
    · refine np_op (vs := [.int .i64 (i : Int), .int .i64 n]) (by simp [SV.val, hin.h25, hin.h22]) ⟨.i64, _, _, _, rfl, rfl, ?_⟩
      refine iF (by simp [SV.val, upd]; omega) ?_
      show NP.wp P (.ite (.s 35) _ _ _) _ _ _
      refine iF (by simp [SV.val, upd]) ?_
      exact out _ (by simp [upd, hin.h1]) (by simp [upd, hin.h3]) (by simp [upd, hin.h7]) (.inl (by omega))
  refine np_op (vs := [.int .i64 n, .int .i64 0]) (by simp [SV.val, upd]) ⟨.i64, _, _, _, rfl, rfl, ?_⟩
  by_cases hneg : n < 0
  · refine iT (by simp [SV.val, upd]; omega) ?_
    refine np_op (vs := [ptr R, .int .i64 3]) (by simp [SV.val, upd, add0]) (srow_fail F.fail (.inr rfl) s15 fun u w16 k16 s16 => ?_)
    exact key _ w16 _ (by simp [upd]) (by simp [upd]) (by simp [upd]) (by simp [upd]) k16 s16 (by rw [if_pos hneg])
  · refine iF (by simp [SV.val, upd]; omega) ?_
    exact key _ w15 _ (by simp [upd]) (by simp [upd]) (by simp [upd]) (by simp [upd]) (Keep.refl _ _) s15 (by rw [if_neg hneg])

end
end Go.Ar

/- Records held against one another: the whole; the judgement; the law. -/
namespace Go.Ar
open Go.Lx Go.Nx Go.Km Go.Mx Go.Kb

set_option linter.unusedSimpArgs false
set_option linter.unusedVariables false

section
variable {P : Program}

/-- One word more of a row of 'and's. -/
def andI (ld cmp : In) (o p : Nat) (k : NP) : NP :=
  .ite (.s p) (.set (p + 1) (.q 2 o) .nil) (.set (p + 1) (.k (.tuple #[])) .nil) <|
  .ite (.s p) (.op ld [.s (p + 1)] (p + 2) <| .set (p + 3) (.s (p + 2)) .nil) (.set (p + 3) (.k (.tuple #[])) .nil) <|
  .ite (.s p) (.set (p + 4) (.q 3 o) .nil) (.set (p + 4) (.k (.tuple #[])) .nil) <|
  .ite (.s p) (.op ld [.s (p + 4)] (p + 5) <| .set (p + 6) (.s (p + 5)) .nil) (.set (p + 6) (.k (.tuple #[])) .nil) <|
  .ite (.s p) (.op cmp [.s (p + 3), .s (p + 6)] (p + 7) <| .set (p + 8) (.s (p + 7)) .nil) (.set (p + 8) (.k (.tuple #[])) .nil) <|
  .ite (.s p) (.set (p + 9) (.s (p + 8)) .nil) (.set (p + 9) (.k (.bool false)) .nil) k

theorem andI_ok {ld cmp : In} {o p : Nat} {k : NP} {Q : Post} {η : Nat → Value} {w : World} {X Y : Nat} {v1 v2 : Value} {t : Bool} {hyp : Prop} (h6 : 3 < p) (h2 : η 2 = ptr X) (h3 : η 3 = ptr Y) (hp : η p = .bool t) (ht : hyp → t = true)
    (l1 : ∀ K : Value → World → Prop, K v1 w → In.wp P ld [.pointer (some ⟨X, o, none⟩)] w K) (l2 : ∀ K : Value → World → Prop, K v2 w → In.wp P ld [.pointer (some ⟨Y, o, none⟩)] w K)
    (hc : ∀ K : Value → World → Prop, (∀ t' w', Keep [] w w' → (hyp → t' = true) → K (.bool t') w') → In.wp P cmp [v1, v2] w K)
    (hk : ∀ η' w' t', Keep [] w w' → η' 2 = ptr X → η' 3 = ptr Y → η' (p + 9) = .bool t' → (hyp → t' = true) → k.wp P Q η' w') : (andI ld cmp o p k).wp P Q η w := by
  have n2 : ∀ k, ¬ 2 = p + k := fun k => by omega
  have n3 : ∀ k, ¬ 3 = p + k := fun k => by omega
  have p0 : ¬ p = 0 := by omega
  have p1 : ¬ p = 1 := by omega
  have p2 : ¬ p = 2 := by omega
  have q1 : ¬ 1 = p := by omega
  have q2 : ¬ 2 = p := by omega
  cases t with
  | false =>
    refine iF (by simp [SV.val, hp]) ?_
    refine iF (by simp [SV.val, upd, hp]) ?_
    refine iF (by simp [SV.val, upd, hp]) ?_
    refine iF (by simp [SV.val, upd, hp]) ?_
    refine iF (by simp [SV.val, upd, hp]) ?_
    refine iF (by simp [SV.val, upd, hp]) ?_
    exact hk _ w false (Keep.refl _ _) (by simp [upd, n2, h2, p0, p1, p2, q1, q2]) (by simp [upd, n3, h3, p0, p1, p2, q1, q2]) (by simp [upd, SV.val]) ht
  | true =>
    refine iT (by simp [SV.val, hp]) ?_
    refine iT (by simp [SV.val, upd, hp]) ?_
    refine np_op (vs := [.pointer (some ⟨X, o, none⟩)]) (by simp [SV.val, upd, h2, Addr.add] <;> omega) (l1 _ ?_)
    refine iT (by simp [SV.val, upd, hp]) ?_
    refine iT (by simp [SV.val, upd, hp]) ?_
    refine np_op (vs := [.pointer (some ⟨Y, o, none⟩)]) (by simp [SV.val, upd, n3, h3, p0, p1, p2, q1, q2, Addr.add] <;> omega) (l2 _ ?_)
    refine iT (by simp [SV.val, upd, hp]) ?_
    refine np_op (vs := [v1, v2]) (by simp [SV.val, upd]) (hc _ fun t' w' kk ht' => ?_)
    refine iT (by simp [SV.val, upd, hp]) ?_
    exact hk _ w' t' kk (by simp [upd, n2, h2, p0, p1, p2, q1, q2]) (by simp [upd, n3, h3, p0, p1, p2, q1, q2]) (by simp [upd, SV.val]) ht'

def p_sameRecord (so sh : FuncId) : FnP := ⟨.op (.box 9) [.s 0] 2 <|
  .chk 2 <|
  .op (.box 9) [.s 1] 3 <|
  .chk 3 <|
  .op .load [.q 2 0] 4 <|
  .op .load [.q 3 0] 5 <|
  .op (.bin .eql) [.s 4, .s 5] 6 <|
  andI .load (.bin .eql) 1 6 <|
  andI .load (.bin .eql) 2 15 <|
  andI .load (.bin .eql) 3 24 <|
  andI (.loadN 2) (.call so) 4 33 <|
  andI (.loadN 2) (.call so) 6 42 <|
  andI .load (.call sh) 8 51 <|
  .ret [.s 60], [.direct]⟩

def SrC (P : Program) (f : FuncId) : Prop := ∀ (w : World) (x y : Rec) (c1 c2 : List Value) (K : Value → World → Prop), RecR (fun _ => True) w x c1 → RecR (fun _ => True) w y c2 → RBd x 1048576 →
  (∀ t w', Keep [] w w' → (x = y → t = true) → K (.bool t) w') → In.wp P (.call f) [.agg c1.toArray, .agg c2.toArray] w K

theorem eqI {k : IntKind} {a b : Int} {hyp : Prop} (h : hyp → a = b) {w : World} (K : Value → World → Prop) (hK : ∀ t' w', Keep [] w w' → (hyp → t' = true) → K (.bool t') w') : In.wp P (.bin .eql) [.int k a, .int k b] w K :=
  ⟨k, _, _, _, rfl, rfl, hK _ w (Keep.refl _ _) fun hh => by simp [h hh]⟩

theorem sameRecord_ok (hn : Named P) {f so sh : FuncId} (hf : fnP P f 2 = some (p_sameRecord so sh)) (hS : SoC P so) (hH : ShC P sh) : SrC P f := by
  intro w x y c1 c2 K r1 r2 hb hk
  refine calls_of_np hn (vs := [.agg c1.toArray, .agg c2.toArray]) hf fun η hη => ?_
  have h0 : η 0 = .agg c1.toArray := hη 0 (by simp)
  have h1 : η 1 = .agg c2.toArray := hη 1 (by simp)
  obtain ⟨k1, v1, hs1, rfl, sk1, sv1, sh1⟩ := r1
  obtain ⟨k2, v2, hs2, rfl, sk2, sv2, sh2⟩ := r2
  obtain ⟨b1, b2, b3, b4⟩ := hb
  refine np_op (vs := [.agg (List.toArray [.int .i32 x.len, .int .i8 x.attr, .int .i64 x.delta, .int .i32 x.off, .bool x.key.isNone, k1, .bool x.val.isNone, v1, hs1])]) (by simp [SV.val, h0]) (wp_box (cs := [.int .i32 x.len, .int .i8 x.attr, .int .i64 x.delta, .int .i32 x.off, .bool x.key.isNone, k1, .bool x.val.isNone, v1, hs1]) rfl fun X w1 rX hX kX => ?_)
  refine ⟨⟨_, by simp only [upd]; rfl⟩, ?_⟩
  refine np_op (vs := [.agg (List.toArray [.int .i32 y.len, .int .i8 y.attr, .int .i64 y.delta, .int .i32 y.off, .bool y.key.isNone, k2, .bool y.val.isNone, v2, hs2])]) (by simp [SV.val, upd, h1]) (wp_box (cs := [.int .i32 y.len, .int .i8 y.attr, .int .i64 y.delta, .int .i32 y.off, .bool y.key.isNone, k2, .bool y.val.isNone, v2, hs2]) rfl fun Y w2 rY hY kY => ?_)
  refine ⟨⟨_, by simp only [upd]; rfl⟩, ?_⟩
  have rX := rX.keep kY (by simp)
  have c0 := kX.then kY
  refine np_op (vs := [ptr X]) (by simp [SV.val, upd, add0]) (wp_load rX rfl ?_)
  refine np_op (vs := [ptr Y]) (by simp [SV.val, upd, add0]) (wp_load rY rfl ?_)
  refine np_op (vs := [.int .i32 x.len, .int .i32 y.len]) (by simp [SV.val, upd]) (eqI (hyp := x = y) (fun h => by rw [h]) _ fun t3 w3 q3 ht3 => ?_)
  have rX3 := rX.keep q3 (by simp)
  have rY3 := rY.keep q3 (by simp)
  refine andI_ok (X := X) (Y := Y) (hyp := x = y) (by omega) (by simp [upd]) (by simp [upd]) (by simp [upd]) ht3 (fun K h => wp_load rX3 rfl h) (fun K h => wp_load rY3 rfl h) (eqI fun h => by rw [h]) fun η4 w4 t4 q4 y2 y3 y9 ht4 => ?_
  have rX4 := rX3.keep q4 (by simp)
  have rY4 := rY3.keep q4 (by simp)
  refine andI_ok (X := X) (Y := Y) (hyp := x = y) (by omega) y2 y3 y9 ht4 (fun K h => wp_load rX4 rfl h) (fun K h => wp_load rY4 rfl h) (eqI fun h => by rw [h]) fun η5 w5 t5 q5 y2 y3 y9 ht5 => ?_
  have rX5 := rX4.keep q5 (by simp)
  have rY5 := rY4.keep q5 (by simp)
  refine andI_ok (X := X) (Y := Y) (hyp := x = y) (by omega) y2 y3 y9 ht5 (fun K h => wp_load rX5 rfl h) (fun K h => wp_load rY5 rfl h) (eqI fun h => by rw [h]) fun η6 w6 t6 q6 y2 y3 y9 ht6 => ?_
  have rX6 := rX5.keep q6 (by simp)
  have rY6 := rY5.keep q6 (by simp)
  have c6 : Keep [] w w6 := c0.then (q3.then (q4.then (q5.then q6)))
  refine andI_ok (X := X) (Y := Y) (hyp := x = y) (v1 := .agg #[.bool x.key.isNone, k1]) (v2 := .agg #[.bool y.key.isNone, k2]) (by omega) y2 y3 y9 ht6 (fun K h => wp_loadN rX6 (by simp) h) (fun K h => wp_loadN rY6 (by simp) h) (fun K h => hS w6 _ _ k1 k2 K (sz_keep sk1 c6) (sz_keep sk2 c6) b1 fun t' w' kk ht' => h t' w' kk fun e => ht' (by rw [e])) fun η7 w7 t7 q7 y2 y3 y9 ht7 => ?_
  have rX7 := rX6.keep q7 (by simp)
  have rY7 := rY6.keep q7 (by simp)
  have c7 := c6.then q7
  refine andI_ok (X := X) (Y := Y) (hyp := x = y) (v1 := .agg #[.bool x.val.isNone, v1]) (v2 := .agg #[.bool y.val.isNone, v2]) (by omega) y2 y3 y9 ht7 (fun K h => wp_loadN rX7 (by simp) h) (fun K h => wp_loadN rY7 (by simp) h) (fun K h => hS w7 _ _ v1 v2 K (sz_keep sv1 c7) (sz_keep sv2 c7) b2 fun t' w' kk ht' => h t' w' kk fun e => ht' (by rw [e])) fun η8 w8 t8 q8 y2 y3 y9 ht8 => ?_
  have rX8 := rX7.keep q8 (by simp)
  have rY8 := rY7.keep q8 (by simp)
  have c8 := c7.then q8
  refine andI_ok (X := X) (Y := Y) (hyp := x = y) (by omega) y2 y3 y9 ht8 (fun K h => wp_load rX8 rfl h) (fun K h => wp_load rY8 rfl h) (fun K h => hH w8 x.hs y.hs hs1 hs2 K (sh1.keep c8) (sh2.keep c8) b3 b4 fun t' w' kk ht' => h t' w' kk fun e => ht' (by rw [e])) fun η9 w9 t9 q9 y2 y3 y9 ht9 => ?_
  show K (pack _) w9
  simpa [pack, SV.val, y9] using hk t9 w9 (c8.then q9) ht9

/-! The judgement. -/
def p_judged (aw : FuncId) : FnP := ⟨.op (.bin .eql) [.s 1, .k (.int .i64 1)] 5 <|
  .ite (.s 5)
    (.set 6 (.k (.tuple #[])) <|
    .nil)
    (.set 6 (.s 1) <|
    .nil) <|
  .ite (.s 5)
    (.set 8 (.k (.tuple #[])) <|
    .nil)
    (.op (.bin .eql) [.s 6, .k (.int .i64 2)] 7 <|
    .set 8 (.s 7) <|
    .nil) <|
  .ite (.s 5)
    (.set 9 (.k (.bool true)) <|
    .nil)
    (.set 9 (.s 8) <|
    .nil) <|
  .ite (.s 9)
    (.op .not [.s 3] 10 <|
    .ite (.s 10)
      (.op (.call aw) [] 11 <|
      .set 12 (.s 11) <|
      .nil)
      (.set 12 (.k (.tuple #[])) <|
      .nil) <|
    .ite (.s 10)
      (.set 13 (.s 12) <|
      .nil)
      (.set 13 (.k (.bool false)) <|
      .nil) <|
    .ret [.s 13])
    (.op (.bin .eql) [.s 1, .k (.int .i64 0)] 14 <|
    .ite (.s 14)
      (.set 15 (.s 0) <|
      .nil)
      (.set 15 (.k (.tuple #[])) <|
      .nil) <|
    .ite (.s 14)
      (.set 16 (.s 2) <|
      .nil)
      (.set 16 (.k (.tuple #[])) <|
      .nil) <|
    .ite (.s 14)
      (.op .len [.s 16] 17 <|
      .set 18 (.s 17) <|
      .nil)
      (.set 18 (.k (.tuple #[])) <|
      .nil) <|
    .ite (.s 14)
      (.op (.bin .eql) [.s 15, .s 18] 19 <|
      .set 20 (.s 19) <|
      .nil)
      (.set 20 (.k (.tuple #[])) <|
      .nil) <|
    .ite (.s 14)
      (.set 21 (.s 20) <|
      .nil)
      (.set 21 (.k (.bool false)) <|
      .nil) <|
    .ite (.s 21)
      (.ite (.s 3)
        (.set 22 (.s 4) <|
        .nil)
        (.set 22 (.k (.tuple #[])) <|
        .nil) <|
      .ite (.s 3)
        (.set 23 (.s 22) <|
        .nil)
        (.set 23 (.k (.bool false)) <|
        .nil) <|
      .ret [.s 23])
      (.nil) <|
    .nil) <|
  .op (.call aw) [] 24 <|
  .ret [.s 24], [.direct]⟩

/-- The readers are awake where the error's variable is laid. -/
def AwG (P : Program) (f : FuncId) (g : Nat) : Prop := ∀ (w : World) (K : Value → World → Prop) (et : TypeId) (ev : Value), w.cell? ⟨g, 0, none⟩ = some (.iface et ev) → (∀ w', Keep [] w w' → K (.bool true) w') → In.wp P (.call f) [] w K

theorem judged_ok (hn : Named P) {f aw : FuncId} (hf : fnP P f 5 = some (p_judged aw)) {g : Nat} (hA : AwG P aw g) {w : World} {et : TypeId} {ev : Value} (herr : w.cell? ⟨g, 0, none⟩ = some (.iface et ev)) {pos how : Int} {a : Option Addr} {n c : Nat} {gk same : Bool} {K : Value → World → Prop} (hh : how = 0 ∨ how = 1 ∨ how = 3) (h1 : how = 1 → gk = false) (h0 : how = 0 → gk = true ∧ same = true)
    (hk : ∀ w', Keep [] w w' → K (.bool true) w') : In.wp P (.call f) [.int .i64 pos, .int .i64 how, .slice a n c, .bool gk, .bool same] w K := by
  refine calls_of_np hn (vs := [.int .i64 pos, .int .i64 how, .slice a n c, .bool gk, .bool same]) hf fun η hη => ?_
  have z0 : η 0 = .int .i64 pos := hη 0 (by simp)
  have z1 : η 1 = .int .i64 how := hη 1 (by simp)
  have z2 : η 2 = .slice a n c := hη 2 (by simp)
  have z3 : η 3 = .bool gk := hη 3 (by simp)
  have z4 : η 4 = .bool same := hη 4 (by simp)
  refine np_op (vs := [.int .i64 how, .int .i64 1]) (by simp [SV.val, z1]) ⟨.i64, _, _, _, rfl, rfl, ?_⟩
  rcases hh with rfl | rfl | rfl
  · obtain ⟨rfl, rfl⟩ := h0 rfl
    refine iF (by simp [SV.val, upd]) ?_
    refine iF (by simp [SV.val, upd]) ?_
    refine np_op (vs := [.int .i64 0, .int .i64 2]) (by simp [SV.val, upd, z1]) ⟨.i64, _, _, _, rfl, rfl, ?_⟩
    refine iF (by simp [SV.val, upd]) ?_
    refine iF (by simp [SV.val, upd]) ?_
    refine np_op (vs := [.int .i64 0, .int .i64 0]) (by simp [SV.val, upd, z1]) ⟨.i64, _, _, _, rfl, rfl, ?_⟩
    refine iT (by simp [SV.val, upd]) ?_
    refine iT (by simp [SV.val, upd]) ?_
    refine iT (by simp [SV.val, upd]) ?_
    refine np_op (vs := [.slice a n c]) (by simp [SV.val, upd, z2]) ⟨_, _, _, rfl, ?_⟩
    refine iT (by simp [SV.val, upd]) ?_
    refine np_op (vs := [.int .i64 pos, goInt n]) (by simp [SV.val, upd, z0]) ⟨.i64, _, _, _, rfl, rfl, ?_⟩
    refine iT (by simp [SV.val, upd]) ?_
    by_cases hq : pos = (n : Int)
    · refine iT (by simp [SV.val, upd, hq]) ?_
      refine iT (by simp [SV.val, upd, z3]) ?_
      refine iT (by simp [SV.val, upd, z3]) ?_
      show K (pack _) w
      simpa [pack, SV.val, upd, z4] using hk w (Keep.refl _ _)
    · refine iF (by simp [SV.val, upd, hq]) ?_
      refine np_op (vs := []) rfl (hA w _ et ev herr fun w' kk => ?_)
      show K (pack _) w'
      simpa [pack, SV.val, upd] using hk w' kk
  · have hg := h1 rfl
    subst hg
    refine iT (by simp [SV.val, upd]) ?_
    refine iT (by simp [SV.val, upd]) ?_
    refine iT (by simp [SV.val, upd]) ?_
    refine iT (by simp [SV.val, upd]) ?_
    refine np_op (vs := [.bool false]) (by simp [SV.val, upd, z3]) ⟨_, rfl, ?_⟩
    refine iT (by simp [SV.val, upd]) ?_
    refine np_op (vs := []) rfl (hA w _ et ev herr fun w' kk => ?_)
    refine iT (by simp [SV.val, upd]) ?_
    show K (pack _) w'
    simpa [pack, SV.val, upd] using hk w' kk
  · refine iF (by simp [SV.val, upd]) ?_
    refine iF (by simp [SV.val, upd]) ?_
    refine np_op (vs := [.int .i64 3, .int .i64 2]) (by simp [SV.val, upd, z1]) ⟨.i64, _, _, _, rfl, rfl, ?_⟩
    refine iF (by simp [SV.val, upd]) ?_
    refine iF (by simp [SV.val, upd]) ?_
    refine np_op (vs := [.int .i64 3, .int .i64 0]) (by simp [SV.val, upd, z1]) ⟨.i64, _, _, _, rfl, rfl, ?_⟩
    refine iF (by simp [SV.val, upd]) ?_
    refine iF (by simp [SV.val, upd]) ?_
    refine iF (by simp [SV.val, upd]) ?_
    refine iF (by simp [SV.val, upd]) ?_
    refine iF (by simp [SV.val, upd]) ?_
    refine iF (by simp [SV.val, upd]) ?_
    refine np_op (vs := []) rfl (hA w _ et ev herr fun w' kk => ?_)
    show K (pack _) w'
    simpa [pack, SV.val, upd] using hk w' kk

/-! The law. -/
def p_fnAnyRecord (rr tell same judged : FuncId) : FnP := ⟨.op .len [.s 0] 1 <|
  .op (.bin .gtr) [.s 1, .k (.int .i64 2147483647)] 2 <|
  .ite (.s 2)
    (.ret [.k (.bool true)])
    (.nil) <|
  .op .len [.s 0] 3 <|
  .op (.bin .gtr) [.s 3, .k (.int .i64 4096)] 4 <|
  .ite (.s 4)
    (.ret [.k (.bool true)])
    (.nil) <|
  .op (.call rr) [.s 0] 5 <|
  .op (.ex 0) [.s 5] 6 <|
  .op (.ex 1) [.s 5] 7 <|
  .op (.ex 2) [.s 5] 8 <|
  .op (.alloc z9) [] 9 <|
  .chk 9 <|
  .op (.store 9) [.q 9 0, .s 6] 10 <|
  .op (.call tell) [.s 0] 11 <|
  .op (.ex 0) [.s 11] 12 <|
  .op (.ex 1) [.s 11] 13 <|
  .op (.alloc z9) [] 14 <|
  .chk 14 <|
  .op (.store 9) [.q 14 0, .s 12] 15 <|
  .op (.loadN 9) [.q 14 0] 16 <|
  .op (.loadN 9) [.q 9 0] 17 <|
  .op (.call same) [.s 16, .s 17] 18 <|
  .op (.call judged) [.s 7, .s 8, .s 0, .s 13, .s 18] 19 <|
  .ret [.s 19], [.direct]⟩

theorem RecR.keep {w w' : World} {x : Rec} {cs : List Value} (h : RecR (fun _ => True) w x cs) (k : Keep [] w w') : RecR (fun _ => True) w' x cs := by
  obtain ⟨d1, d2, hs, e, s1, s2, s3⟩ := h
  exact ⟨d1, d2, hs, e, sz_keep s1 k, sz_keep s2 k, s3.keep k⟩

theorem HdR.one {ok : Nat → Prop} {w : World} {l : List Hd} {v : Value} (h : HdR ok w l v) : One v := by
  rcases h with ⟨rfl, _⟩ | ⟨H, c, cs, rfl, _⟩ <;> exact ⟨rfl, rfl⟩

theorem RecR.one {ok : Nat → Prop} {w : World} {x : Rec} {cs : List Value} (h : RecR ok w x cs) : cs.length = 9 ∧ ∀ v ∈ cs, v.oneCell' = true := by
  obtain ⟨d1, d2, hs, rfl, s1, s2, s3⟩ := h
  refine ⟨rfl, fun v hv => ?_⟩
  simp only [List.mem_cons, List.not_mem_nil, or_false] at hv
  rcases hv with h | h | h | h | h | h | h | h | h
  · rw [h]; rfl
  · rw [h]; rfl
  · rw [h]; rfl
  · rw [h]; rfl
  · rw [h]; rfl
  · rw [h]; exact (oneZ s1).2
  · rw [h]; rfl
  · rw [h]; exact (oneZ s2).2
  · rw [h]; exact s3.one.2

theorem law_record (hn : Named P) {f rr tell same judged aw : FuncId} {g : Nat} (hf : fnP P f 1 = some (p_fnAnyRecord rr tell same judged)) (hR : RrFn P rr) (hT : TellFn P tell g) (hS : SrC P same) (hJ : fnP P judged 5 = some (p_judged aw)) (hA : AwG P aw g)
    {w : World} {src : Value} {bs : Bs} {et : TypeId} {ev : Value} (hsl : Sz (fun _ => True) w src bs) (herr : w.cell? ⟨g, 0, none⟩ = some (.iface et ev)) {K : Value → World → Prop} (hk : ∀ w', Keep [] w w' → K (.bool true) w') : In.wp P (.call f) [src] w K := by
  refine calls_of_np hn (vs := [src]) hf fun η hη => ?_
  have h0 : η 0 = src := hη 0 (by simp)
  obtain ⟨a, c, ea, _⟩ := sz_slice hsl
  refine np_op (vs := [src]) (by simp [SV.val, h0]) ⟨a, _, c, by rw [ea], ?_⟩
  refine np_op (vs := [goInt bs.length, .int .i64 2147483647]) (by simp [SV.val, upd]) ⟨.i64, _, _, _, rfl, rfl, ?_⟩
  by_cases hb1 : (bs.length : Int) > 2147483647
  · refine iT (by simp [SV.val, upd, goInt]; omega) ?_
    show K (pack _) w
    simpa [pack, SV.val] using hk w (Keep.refl _ _)
  refine iF (by simp [SV.val, upd, goInt]; omega) ?_
  refine np_op (vs := [src]) (by simp [SV.val, upd, h0]) ⟨a, _, c, by rw [ea], ?_⟩
  refine np_op (vs := [goInt bs.length, .int .i64 4096]) (by simp [SV.val, upd]) ⟨.i64, _, _, _, rfl, rfl, ?_⟩
  by_cases hb2 : (bs.length : Int) > 4096
  · refine iT (by simp [SV.val, upd, goInt]; omega) ?_
    show K (pack _) w
    simpa [pack, SV.val] using hk w (Keep.refl _ _)
  refine iF (by simp [SV.val, upd, goInt]; omega) ?_
  refine np_op (vs := [src]) (by simp [SV.val, upd, h0]) (hR w src bs _ hsl (by omega) fun y c2 pos how w1 k1 r1 hend => ?_)
  obtain ⟨n1, o1⟩ := r1.one
  refine np_op (vs := [.tuple #[.agg c2.toArray, .int .i64 pos, .int .i64 how]]) (by simp [SV.val, upd]) ⟨_, _, rfl, rfl, ?_⟩
  refine np_op (vs := [.tuple #[.agg c2.toArray, .int .i64 pos, .int .i64 how]]) (by simp [SV.val, upd]) ⟨_, _, rfl, rfl, ?_⟩
  refine np_op (vs := [.tuple #[.agg c2.toArray, .int .i64 pos, .int .i64 how]]) (by simp [SV.val, upd]) ⟨_, _, rfl, rfl, ?_⟩
  refine np_op (vs := []) rfl (wp_alloc fun Y w2 rY hY k2 => ?_)
  refine ⟨⟨_, by simp only [upd]; rfl⟩, ?_⟩
  have st : ∀ {cs : List Value} {w0 : World} {B : Nat} {K1 : Value → World → Prop}, cs.length = 9 → (∀ v ∈ cs, v.oneCell' = true) → Row w0 B z9 → (∀ w', Row w' B cs → Keep [B] w0 w' → K1 undef w') → In.wp P (.store 9) [ptr B, .agg cs.toArray] w0 K1 := fun {cs w0 B K1} h9 ho hr hK => by
    refine wp_store hr (n := 9) ⟨by simp [Value.cells, h9], by simp only [Value.cells]; simpa using ho⟩ (by simp) fun w' r' k' => ?_
    have hput : put z9 0 (Value.agg cs.toArray).cells.toList = cs := by simp [put, Value.cells, h9]
    rw [hput] at r'
    exact hK w' r' k'
  refine np_op (vs := [ptr Y, .agg c2.toArray]) (by simp [SV.val, upd, add0]) (st n1 o1 rY fun w3 rY3 k3 => ?_)
  have hs1 := k1.size
  have hs2 := k2.size
  have k13 : Keep [] w1 w3 := k2.trans k3 fun x hx hlt => by simp at hx; omega
  have k03 : Keep [] w w3 := k1.then k13
  have hgl : g < w.heap.size := cellLt herr
  have herr3 : w3.cell? ⟨g, 0, none⟩ = some (.iface et ev) := by rw [World.cell?_of_block (w := w) (w' := w3) (k03.block g hgl (by simp))]; exact herr
  refine np_op (vs := [src]) (by simp [SV.val, upd, h0]) (hT w3 src bs _ et ev (sz_keep hsl k03).sl0 (by omega) herr3 fun x c1 w4 k4 r4 hx hbd => ?_)
  obtain ⟨n4, o4⟩ := r4.one
  refine np_op (vs := [.tuple #[.agg c1.toArray, .bool (rdRec bs).isSome]]) (by simp [SV.val, upd]) ⟨_, _, rfl, rfl, ?_⟩
  refine np_op (vs := [.tuple #[.agg c1.toArray, .bool (rdRec bs).isSome]]) (by simp [SV.val, upd]) ⟨_, _, rfl, rfl, ?_⟩
  refine np_op (vs := []) rfl (wp_alloc fun X w5 rX hX k5 => ?_)
  refine ⟨⟨_, by simp only [upd]; rfl⟩, ?_⟩
  refine np_op (vs := [ptr X, .agg c1.toArray]) (by simp [SV.val, upd, add0]) (st n4 o4 rX fun w6 rX6 k6 => ?_)
  have k46 : Keep [] w4 w6 := k5.trans k6 fun x hx hlt => by simp at hx; omega
  have k36 : Keep [] w3 w6 := k4.then k46
  have rY6 := rY3.keep k36 (by simp)
  have t1 : (c1.drop 0).take 9 = c1 := by rw [List.drop_zero, List.take_of_length_le (by omega)]
  have t2 : (c2.drop 0).take 9 = c2 := by rw [List.drop_zero, List.take_of_length_le (by omega)]
  refine np_op (vs := [ptr X]) (by simp [SV.val, upd, add0]) (wp_loadN rX6 (by omega) ?_)
  rw [t1]
  refine np_op (vs := [ptr Y]) (by simp [SV.val, upd, add0]) (wp_loadN rY6 (by omega) ?_)
  rw [t2]
  have hbd' : RBd x 1048576 := ⟨by have := hbd.1; omega, by have := hbd.2.1; omega, by have := hbd.2.2.1; omega, fun h hh => by have := hbd.2.2.2 h hh; omega⟩
  refine np_op (vs := [.agg c1.toArray, .agg c2.toArray]) (by simp [SV.val, upd]) (hS w6 x y c1 c2 _ (r4.keep k46) (r1.keep (k13.then k36)) hbd' fun t w7 k7 ht => ?_)
  have hlike := like_rec bs
  refine np_op (vs := [.int .i64 pos, .int .i64 how, .slice a bs.length c, .bool (rdRec bs).isSome, .bool t]) (by simp [SV.val, upd, h0, ea]) (judged_ok hn hJ hA (et := et) (ev := ev) (by rw [World.cell?_of_block (w := w) (w' := w7) ((k03.then (k36.then k7)).block g hgl (by simp))]; exact herr) ?_ ?_ ?_ fun w8 k8 => ?_)
  · unfold REnd at hend
    cases hq : refRec bs with
    | fine z r => rw [hq] at hend; exact .inl hend.1
    | short => rw [hq] at hend; exact .inr (.inl hend)
    | loose => rw [hq] at hend; exact .inr (.inr hend)
  · intro h1
    unfold REnd at hend
    cases hq : refRec bs with
    | fine z r => rw [hq] at hend; have := hend.1; omega
    | short =>
      rw [hq] at hlike
      have : rdRec bs = none := hlike
      rw [this]; rfl
    | loose => rw [hq] at hend; have : how = 3 := hend; omega
  · intro h1
    unfold REnd at hend
    cases hq : refRec bs with
    | fine z r =>
      rw [hq] at hend hlike
      have hr : rdRec bs = some (z, r) := hlike
      refine ⟨by rw [hr]; rfl, ht ?_⟩
      rw [hx z r hr, hend.2]
    | short => rw [hq] at hend; have : how = 1 := hend; omega
    | loose => rw [hq] at hend; have : how = 3 := hend; omega
  · show K (pack _) w8
    simpa [pack, SV.val, upd] using hk w8 (k03.then (k36.then (k7.then k8)))

end
end Go.Ar
