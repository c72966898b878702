/- What the form writes of nothing: octets of zeros. -/
import Derived.Test.YtmlmiljgbaalgaaDoorRb
import Derived.Test.YtmlmiljgbaalgaaDoorKq
import Derived.KernelRfl
set_option linter.unusedSimpArgs false
set_option linter.unusedVariables false
namespace Go.Ar
open Go.Lx Go.Nx Go.Km Go.Mx Go.Kb

set_option linter.unusedSimpArgs false
set_option linter.unusedVariables false

section
variable {P : Program} {e : TypeId}

/-- A closed call that gives octets of its own. -/
def Gv (P : Program) (e : TypeId) (f : FuncId) (args : List Value) (out : Bs) : Prop :=
  ∀ (w : World) (K : Value → World → Prop), (∀ d w', Keep [] w w' → Own w' w.heap.size e d out → K d w') → In.wp P (.call f) args w K

theorem ownW {w : World} {B B' : Nat} {d : Value} {out : Bs} (h : Own w B e d out) (hB : B' ≤ B) : Own w B' e d out := by
  refine ⟨⟨h.1.1, ?_⟩, Nat.le_trans hB h.2⟩
  rcases h.1.2 with h0 | ⟨g, cap, cur, h2, h3, h4⟩
  · exact .inl h0
  · exact .inr ⟨g, cap, cur, h2, Nat.le_trans hB h3, h4⟩

theorem ownK {w w' : World} {B : Nat} {d : Value} {out : Bs} (h : Own w B e d out) (k : Keep [] w w') : Own w' B e d out := by
  refine ⟨⟨h.1.1, ?_⟩, Nat.le_trans h.2 k.size⟩
  rcases h.1.2 with h0 | ⟨g, cap, cur, h2, h3, h4, h5⟩
  · exact .inl h0
  · exact .inr ⟨g, cap, cur, h2, h3, by rw [k.block g (Array.getElem?_eq_some_iff.1 h4).1 (by simp)]; exact h4, h5⟩

theorem own_sl0 {w : World} {B : Nat} {d : Value} {out : Bs} (h : Own w B e d out) : Sl0 w d out := (own_sl h).sl0

theorem rowB {w w' : World} {X B : Nat} {cs : List Value} (h : Row w X cs) (hX : X < B) (k : RowKit.Below B w w') : Row w' X cs := by
  obtain ⟨e, h⟩ := h
  exact ⟨e, by rw [k.block X hX]; exact h⟩

theorem keepB {w w1 w2 : World} {B : Nat} (k : Keep [] w w1) (b : RowKit.Below B w1 w2) (hB : w.heap.size ≤ B) : Keep [] w w2 :=
  ⟨b.os.trans k.os, b.tape.trans k.tape, b.output.trans k.output, Nat.le_trans k.size b.size, fun q hq hn => by rw [b.block q (by omega)]; exact k.block q hq hn⟩

theorem gv_call {f : FuncId} {args : List Value} {out : Bs} (h : Gv P e f args out) {B : Nat} {w : World} (hB : B ≤ w.heap.size) {K : Value → World → Prop} (hk : ∀ d w', Keep [] w w' → Own w' B e d out → K d w') : In.wp P (.call f) args w K :=
  h w K fun d w' k o => hk d w' k (ownW o hB)

/-- One octet behind others. -/
theorem lay1 {w : World} {B : Nat} {d : Value} {out : Bs} {b : UInt8} {x y : SV} {n m : Nat} {k : NP} {Q : Post} {η : Nat → Value} (ho : Own w B e d out) (hx : x.val η = u8 b) (hy : ∀ v, y.val (upd η n v) = d) (hl : out.length + 1 ≤ lim)
    (h : ∀ v d' w', Own w' B e d' (out ++ [b]) → RowKit.Below B w w' → k.wp P Q (upd (upd η n v) m d') w') :
    (NP.op (.bsl e) [x] n <| .op (.app e) [y, .s n] m k).wp P Q η w := by
  refine np_op (vs := [b].map u8) (by simp [hx]) (wp_bsl fun b1 w1 hb k1 r1 => ?_)
  have o1 := ownK ho k1
  have hb1 : RowKit.Below B w w1 := k1.below (fun x hx => by cases hx) ho.2
  refine np_op (vs := [d, .slice (some ⟨b1, 0, none⟩) 1 1]) (by simp only [List.map, hy]; simp [SV.val, upd]) (wp_app (bs := [b]) o1 (.inr ⟨_, _, rfl, (row_bytes (ok := fun _ => True) r1 trivial).2.2⟩) hl fun d' w2 o2 k2 => ?_)
  exact h _ d' w2 o2 (hb1.trans k2)

/-! Numbers in groups of seven bits. -/
def p_turned : FnP := ⟨.op (.cv .u64) [.s 0] 1 <|
  .op (.sh .shl) [.s 1, .k (.int .u64 1)] 2 <|
  .op (.sh .shr) [.s 0, .k (.int .u64 63)] 3 <|
  .op (.cv .u64) [.s 3] 4 <|
  .op (.int2 .xor) [.s 2, .s 4] 5 <|
  .ret [.s 5], [.direct]⟩

def TnFn (P : Program) (f : FuncId) : Prop := ∀ (n : Nat) (w : World) (K : Value → World → Prop), n = 0 ∨ n = 6 → K (.int .u64 ((2 * n : Nat) : Int)) w → In.wp P (.call f) [.int .i64 (n : Int)] w K

theorem turned_ok (hn : Named P) {f : FuncId} (hf : fnP P f 1 = some p_turned) : TnFn P f := by
  intro n w K hn6 hk
  have hx : intV2 .xor .u64 ((n * 2 ^ 1 : Nat) : Int) ((0 : Nat) : Int) = some (.int .u64 ((2 * n : Nat) : Int)) := by rcases hn6 with rfl | rfl <;> rfl
  refine calls_of_np hn (vs := [.int .i64 (n : Int)]) hf fun η hη => ?_
  have h0 : η 0 = .int .i64 (n : Int) := hη 0 (by simp)
  have hb : (2 : Nat) ^ IntKind.u64.bits = 2 ^ 64 := rfl
  refine np_op (vs := [.int .i64 (n : Int)]) (by simp [SV.val, h0]) ⟨.i64, _, rfl, ?_⟩
  rw [wrap_nat .u64 rfl n (by rw [hb]; omega)]
  have hshl := shl_nat .u64 rfl n 1 (by show 1 ≤ 64; omega) (by rw [hb]; omega)
  refine np_op (vs := [.int .u64 (n : Int), .int .u64 ((1 : Nat) : Int)]) (by simp [SV.val, upd]) ⟨.u64, _, .u64, 1, _, rfl, hshl, ?_⟩
  have hshr := shr_nat .i64 n 63 (by show 63 ≤ 64; omega)
  refine np_op (vs := [.int .i64 (n : Int), .int .u64 ((63 : Nat) : Int)]) (by simp [SV.val, upd, h0]) ⟨.i64, _, .u64, 63, _, rfl, hshr, ?_⟩
  have hz : n / 2 ^ 63 = 0 := Nat.div_eq_of_lt (by omega)
  rw [hz]
  refine np_op (vs := [.int .i64 ((0 : Nat) : Int)]) (by simp [SV.val, upd]) ⟨.i64, _, rfl, ?_⟩
  rw [wrap_nat .u64 rfl 0 (by rw [hb]; omega)]
  refine np_op (vs := [.int .u64 ((n * 2 ^ 1 : Nat) : Int), .int .u64 ((0 : Nat) : Int)]) (by simp [SV.val, upd]) ⟨.u64, _, _, _, rfl, hx, ?_⟩
  show K (pack _) w
  simpa [pack, SV.val, upd] using hk

def uvB (e : TypeId) : NP := .op (.bin .gtr) [.s 2, .k (.int .u64 127)] 3 <|
    .ite (.s 3)
      (.nil)
      (.exit) <|
    .op (.bin .and) [.s 2, .k (.int .u64 127)] 4 <|
    .op (.cv .u8) [.s 4] 5 <|
    .op (.bin .or) [.s 5, .k (.int .u8 128)] 6 <|
    .op (.bsl e) [.s 6] 7 <|
    .op (.app e) [.s 1, .s 7] 8 <|
    .op (.sh .shr) [.s 2, .k (.int .u64 7)] 9 <|
    .set 10 (.s 8) <|
    .set 11 (.s 9) <|
    .set 1 (.s 10) <|
    .set 2 (.s 11) <|
    .nil

def p_uvw (e : TypeId) : FnP := ⟨.set 1 (.k (.slice none 0 0)) <|
  .set 2 (.s 0) <|
  .loop (uvB e) <|
  .op (.cv .u8) [.s 2] 12 <|
  .op (.bsl e) [.s 12] 13 <|
  .op (.app e) [.s 1, .s 13] 14 <|
  .ret [.s 14], [.direct]⟩

theorem uvw_ok (hn : Named P) {f : FuncId} (hf : fnP P f 1 = some (p_uvw e)) (m : Nat) (hm : m < 128) : Gv P e f [.int .u64 (m : Int)] [UInt8.ofNat m] := by
  intro w K hk
  refine calls_of_np hn (vs := [.int .u64 (m : Int)]) hf fun η hη => ?_
  have h0 : η 0 = .int .u64 (m : Int) := hη 0 (by simp)
  refine lp (fun r η' w' => w' = w ∧ η' 1 = .slice none 0 0 ∧ η' 2 = .int .u64 (m : Int)) 0 ⟨rfl, by simp [upd, SV.val], by simp [upd, SV.val, h0]⟩ ?_
  rintro r η' w' ⟨rfl, z1, z2⟩
  refine np_op (vs := [.int .u64 (m : Int), .int .u64 127]) (by simp [SV.val, z2]) ⟨.u64, _, _, _, rfl, rfl, ?_⟩
  refine iF (by simp [SV.val, upd]; omega) ?_
  refine np_op (vs := [.int .u64 (m : Int)]) (by simp [SV.val, upd, z2]) ⟨.u64, _, rfl, ?_⟩
  refine lay1 (d := .slice none 0 0) (out := []) (own_nil w') (b := UInt8.ofNat (m % 256)) (by simp only [SV.val, upd, if_true]; exact wrap_u8 m) (fun v => by simp [SV.val, upd, z1]) (by unfold lim; simp) fun v d' w1 o1 b1 => ?_
  have e1 : m % 256 = m := by omega
  rw [e1] at o1
  show K (pack _) w1
  simpa [pack, SV.val, upd] using hk d' w1 (keepB (Keep.refl _ _) b1 (Nat.le_refl _)) o1

def p_vw (tn uv : FuncId) : FnP := ⟨.op (.call tn) [.s 0] 1 <|
  .op (.call uv) [.s 1] 2 <|
  .ret [.s 2], [.direct]⟩

/-- What a number comes to: 0 or 6. -/
def VwFn (P : Program) (e : TypeId) (f : FuncId) : Prop := ∀ n : Nat, n = 0 ∨ n = 6 → Gv P e f [.int .i64 (n : Int)] [UInt8.ofNat (2 * n)]

theorem vw_ok (hn : Named P) {f tn uv : FuncId} (hf : fnP P f 1 = some (p_vw tn uv)) (hT : TnFn P tn) (hU : fnP P uv 1 = some (p_uvw e)) : VwFn P e f := by
  intro n h6 w K hk
  refine calls_of_np hn (vs := [.int .i64 (n : Int)]) hf fun η hη => ?_
  have h0 : η 0 = .int .i64 (n : Int) := hη 0 (by simp)
  refine np_op (vs := [.int .i64 (n : Int)]) (by simp [SV.val, h0]) (hT n w _ h6 ?_)
  refine np_op (vs := [.int .u64 ((2 * n : Nat) : Int)]) (by simp [SV.val, upd]) (uvw_ok hn hU (2 * n) (by omega) w _ fun d w' k o => ?_)
  show K (pack _) w'
  simpa [pack, SV.val, upd] using hk d w' k o

/-! Numbers of a fixed width. -/
def fxW (e : TypeId) : NP := .op (.bin .geq) [.s 4, .k (.int .i64 0)] 5 <|
    .ite (.s 5)
      (.nil)
      (.exit) <|
    .op (.bin .mul) [.k (.int .i64 8), .s 4] 6 <|
    .op (.sh .shr) [.s 0, .s 6] 7 <|
    .op (.cv .u8) [.s 7] 8 <|
    .op (.bsl e) [.s 8] 9 <|
    .op (.app e) [.s 3, .s 9] 10 <|
    .op (.bin .sub) [.s 4, .k (.int .i64 1)] 11 <|
    .set 12 (.s 10) <|
    .set 13 (.s 11) <|
    .set 3 (.s 12) <|
    .set 4 (.s 13) <|
    .nil

def p_fxw (e : TypeId) : FnP := ⟨.op (.bin .sub) [.s 1, .k (.int .i64 1)] 2 <|
  .set 3 (.k (.slice none 0 0)) <|
  .set 4 (.s 2) <|
  .loop (fxW e) <|
  .ret [.s 3], [.direct]⟩

def fx (n k : Nat) : Bs := List.replicate (k - 1) 0 ++ [UInt8.ofNat n]

def FxFn (P : Program) (e : TypeId) (f : FuncId) : Prop := ∀ n k : Nat, n < 128 → 1 ≤ k → k ≤ 8 → Gv P e f [.int .i64 (n : Int), .int .i64 (k : Int)] (fx n k)

theorem fxw_ok (hn : Named P) {f : FuncId} (hf : fnP P f 2 = some (p_fxw e)) : FxFn P e f := by
  intro n k hn1 hk1 hk8 w K hk
  refine calls_of_np hn (vs := [.int .i64 (n : Int), .int .i64 (k : Int)]) hf fun η hη => ?_
  have h0 : η 0 = .int .i64 (n : Int) := hη 0 (by simp)
  have h1 : η 1 = .int .i64 (k : Int) := hη 1 (by simp)
  refine np_op (vs := [.int .i64 (k : Int), .int .i64 1]) (by simp [SV.val, h1]) ⟨.i64, _, _, _, rfl, rfl, ?_⟩
  rw [wrap64 _ (by omega) (by omega)]
  refine lp (fun m η' w' => m ≤ k ∧ η' 0 = .int .i64 (n : Int) ∧ η' 4 = .int .i64 ((m : Int) - 1) ∧ ∃ d, η' 3 = d ∧ Keep [] w w' ∧ Own w' w.heap.size e d (if m = 0 then fx n k else List.replicate (k - m) 0)) k
    ⟨Nat.le_refl _, by simp [upd, h0], by simp [upd, SV.val], .slice none 0 0, by simp [upd, SV.val], Keep.refl _ _, by rw [if_neg (by omega), Nat.sub_self]; exact own_nil w⟩ ?_
  rintro m η' w' ⟨hmk, z0, z4, d, z3, kk, oo⟩
  refine np_op (vs := [.int .i64 ((m : Int) - 1), .int .i64 0]) (by simp [SV.val, z4]) ⟨.i64, _, _, _, rfl, rfl, ?_⟩
  by_cases hm : m = 0
  · subst hm
    refine iF (by simp [SV.val, upd]) ?_
    rw [if_pos rfl] at oo
    show K (pack _) w'
    simpa [pack, SV.val, upd, z3] using hk d w' kk oo
  · refine iT (by simp [SV.val, upd]; omega) ?_
    obtain ⟨j, rfl⟩ : ∃ j, m = j + 1 := ⟨m - 1, by omega⟩
    have ej : ((j + 1 : Nat) : Int) - 1 = (j : Int) := by omega
    rw [ej] at z4
    rw [if_neg hm] at oo
    have hmul : binV .mul .i64 8 (j : Int) = some (.int .i64 ((8 * j : Nat) : Int)) := by
      show some (Value.int .i64 (IntKind.i64.wrap (8 * (j : Int)))) = _
      rw [wrap64 _ (by omega) (by omega)]
      congr 2
    refine np_op (vs := [.int .i64 8, .int .i64 (j : Int)]) (by simp [SV.val, upd, z4]) ⟨.i64, _, _, _, rfl, hmul, ?_⟩
    have hshr := shr_nat .i64 n (8 * j) (by show 8 * j ≤ 64; omega)
    refine np_op (vs := [.int .i64 (n : Int), .int .i64 ((8 * j : Nat) : Int)]) (by simp [SV.val, upd, z0]) ⟨.i64, _, .i64, 8 * j, _, rfl, hshr, ?_⟩
    refine np_op (vs := [.int .i64 ((n / 2 ^ (8 * j) : Nat) : Int)]) (by simp [SV.val, upd]) ⟨.i64, _, rfl, ?_⟩
    refine lay1 (d := d) oo (b := UInt8.ofNat (n / 2 ^ (8 * j) % 256)) (by simp only [SV.val, upd, if_true]; exact wrap_u8 _) (fun v => by simp [SV.val, upd, z3]) (by unfold lim; simp; omega) fun v d' w1 o1 b1 => ?_
    refine np_op (vs := [.int .i64 (j : Int), .int .i64 1]) (by simp [SV.val, upd, z4]) ⟨.i64, _, _, _, rfl, rfl, ?_⟩
    rw [wrap64 _ (by omega) (by omega)]
    refine ⟨j, by omega, by omega, by simp [upd, z0], by simp [upd, SV.val], d', by simp [upd, SV.val], keepB kk b1 (Nat.le_refl _), ?_⟩
    by_cases hj : j = 0
    · subst hj
      rw [if_pos rfl]
      have : n / 2 ^ (8 * 0) % 256 = n := by simp; omega
      rw [this] at o1
      exact o1
    · rw [if_neg hj]
      have hz : n / 2 ^ (8 * j) = 0 := Nat.div_eq_of_lt (Nat.lt_of_lt_of_le (show n < 2 ^ 8 by omega) (Nat.pow_le_pow_right (by omega) (by omega)))
      rw [hz] at o1
      have e1 : k - j = k - (j + 1) + 1 := by omega
      rw [e1, List.replicate_succ']
      exact o1

/-! Octets with their number ahead. -/
abbrev kp3 (k : NP) : NP := .keep .load [.q 1 1] 6 <| .keep .len [.s 4] 5 <| .keep .load [.q 1 1] 4 k

def p_ob (e : TypeId) (g : FuncId) (cargs : List SV) (bad : NP) : FnP := ⟨.op (.box 2) [.s 0] 1 <|
  .chk 1 <|
  .op .load [.q 1 0] 2 <|
  .ite (.s 2) bad .nil <|
  .draw <|
  .look .load [.q 1 1] 4 <|
  .look .len [.s 4] 5 <|
  .look .load [.q 1 1] 6 <|
  .op (.call g) cargs 7 <| kp3 <|
  .op (.app e) [.s 7, .s 6] 8 <| kp3 <|
  .ret [.s 8], [.direct]⟩

theorem ob_ok (hn : Named P) {f g : FuncId} {cargs : List SV} {bad : NP} {cv : List Value} {out : Bs} (hf : fnP P f 1 = some (p_ob e g cargs bad)) (hc : ∀ η : Nat → Value, η 5 = .int .i64 0 → cargs.map (SV.val η) = cv) (hg : Gv P e g cv out) (hl : out.length ≤ 1000) : Gv P e f [.agg #[.bool false, .slice none 0 0]] out := by
  intro w K hk
  refine calls_of_np hn (vs := [.agg #[.bool false, .slice none 0 0]]) hf fun η hη => ?_
  have h0 : η 0 = .agg #[.bool false, .slice none 0 0] := hη 0 (by simp)
  refine np_op (vs := [.agg #[.bool false, .slice none 0 0]]) (by simp [SV.val, h0]) (wp_box (cs := [.bool false, .slice none 0 0]) rfl fun X w1 rX hX k1 => ?_)
  refine ⟨⟨_, by simp only [upd]; rfl⟩, ?_⟩
  refine np_op (vs := [ptr X]) (by simp [SV.val, upd, add0]) (wp_load rX rfl ?_)
  refine iF (by simp [SV.val, upd]) ?_
  have kd := keep_drawn w1
  refine np_draw ?_
  generalize hw0 : ({ w1 with drawn := w1.drawn + 1 } : World) = w2 at kd ⊢
  have r2 := rX.keep kd (by simp)
  have hXl := r2.lt
  have kp : ∀ {ζ : Nat → Value} {w' : World} {k : NP} {Q : Post}, ζ 1 = ptr X → ζ 4 = .slice none 0 0 → ζ 5 = .int .i64 0 → ζ 6 = .slice none 0 0 → Row w' X [.bool false, .slice none 0 0] → k.wp P Q ζ w' → (kp3 k).wp P Q ζ w' := fun {ζ w' k Q} z1 z4 z5 z6 r hk' => by
    refine np_keep (vs := [.pointer (some ⟨X, 1, none⟩)]) (by simp [SV.val, z1, Addr.add]) (wp_load r rfl ⟨z6.symm, rfl⟩) ?_
    refine np_keep (vs := [.slice none 0 0]) (by simp [SV.val, z4]) ⟨_, _, _, rfl, by rw [z5]; rfl, rfl⟩ ?_
    exact np_keep (vs := [.pointer (some ⟨X, 1, none⟩)]) (by simp [SV.val, z1, Addr.add]) (wp_load r rfl ⟨z4.symm, rfl⟩) hk'
  refine np_look (vs := [.pointer (some ⟨X, 1, none⟩)]) (by simp [SV.val, upd, Addr.add]) (wp_load r2 rfl ⟨rfl, ?_⟩)
  refine np_look (vs := [.slice none 0 0]) (by simp [SV.val, upd]) ⟨_, _, _, rfl, rfl, ?_⟩
  refine np_look (vs := [.pointer (some ⟨X, 1, none⟩)]) (by simp [SV.val, upd, Addr.add]) (wp_load r2 rfl ⟨rfl, ?_⟩)
  refine np_op (vs := cv) (hc _ (by simp [upd, goInt])) (gv_call hg (Nat.le_refl _) fun d w3 k3 o3 => ?_)
  have r3 := r2.keep k3 (by simp)
  have c2 := k1.then kd
  refine kp (by simp [upd]) (by simp [upd]) (by simp [upd, goInt]) (by simp [upd]) r3 ?_
  refine np_op (vs := [d, .slice none 0 0]) (by simp [SV.val, upd]) (wp_app (bs := []) o3 (.inl ⟨rfl, rfl⟩) (by unfold lim; simp; omega) fun d' w4 o4 b4 => ?_)
  have r4 := rowB r3 hXl b4
  refine kp (by simp [upd]) (by simp [upd]) (by simp [upd, goInt]) (by simp [upd]) r4 ?_
  rw [List.append_nil] at o4
  show K (pack _) w4
  have hs := c2.size
  simpa [pack, SV.val, upd] using hk d' w4 (keepB (c2.then k3) b4 hs) (ownW o4 hs)

end
end Go.Ar

/- What the form writes of things of nothing. -/
namespace Go.Ar
open Go.Lx Go.Nx Go.Km Go.Mx Go.Kb

set_option linter.unusedSimpArgs false
set_option linter.unusedVariables false

section
variable {P : Program} {e : TypeId}

/-- A row of one's own behind a struct's cells. -/
structure CS (w0 : World) (B X : Nat) (cs : List Value) (e : TypeId) (w : World) (d : Value) (out : Bs) : Prop where
  k : Keep [] w0 w
  r : Row w X cs
  o : Own w B e d out
  x : X < B
  b : w0.heap.size ≤ B

theorem cs_app {w0 w : World} {B X : Nat} {cs : List Value} {d u : Value} {out bs : Bs} {K : Value → World → Prop} (h : CS w0 B X cs e w d out) (hu : Sl0 w u bs) (hl : out.length + bs.length ≤ lim) (hk : ∀ d' w', CS w0 B X cs e w' d' (out ++ bs) → K d' w') : In.wp P (.app e) [d, u] w K :=
  wp_app h.o hu hl fun d' w' o b => hk d' w' ⟨keepB h.k b h.b, rowB h.r h.x b, o, h.x, h.b⟩

theorem CS.keep {w0 w w' : World} {B X : Nat} {cs : List Value} {d : Value} {out : Bs} (h : CS w0 B X cs e w d out) (k : Keep [] w w') : CS w0 B X cs e w' d out := ⟨h.k.then k, h.r.keep k (by simp), ownK h.o k, h.x, h.b⟩

/-- A call, what it gives appended. -/
theorem cs_ca {w0 w : World} {B X : Nat} {cs : List Value} {d : Value} {out bs : Bs} {g : FuncId} {cargs : List SV} {cv : List Value} {prev c m : Nat} {k : NP} {Q : Post} {η : Nat → Value} (h : CS w0 B X cs e w d out) (hg : Gv P e g cv bs) (hc : cargs.map (SV.val η) = cv) (hp : η prev = d) (hpc : prev ≠ c) (hl : out.length + bs.length ≤ 1000)
    (hk : ∀ u d' w', CS w0 B X cs e w' d' (out ++ bs) → k.wp P Q (upd (upd η c u) m d') w') : (NP.op (.call g) cargs c <| .op (.app e) [.s prev, .s c] m k).wp P Q η w := by
  refine np_op (vs := cv) hc (hg w _ fun u w1 k1 o1 => ?_)
  refine np_op (vs := [d, u]) (by simp [SV.val, upd, hp, hpc]) (cs_app (h.keep k1) (own_sl0 o1) (by unfold lim; omega) fun d' w' h' => hk u d' w' h')

def fxs (fixed : FuncId) (e : TypeId) (z o kk prev a : Nat) (k : NP) : NP := .op .load [.q z o] a <| .op (.cv .i64) [.s a] (a + 1) <| .op (.call fixed) [.s (a + 1), .k (.int .i64 (kk : Int))] (a + 2) <| .op (.app e) [.s prev, .s (a + 2)] (a + 3) k
def fxi (fixed : FuncId) (e : TypeId) (z o kk prev a : Nat) (k : NP) : NP := .op .load [.q z o] a <| .op (.call fixed) [.s a, .k (.int .i64 (kk : Int))] (a + 1) <| .op (.app e) [.s prev, .s (a + 1)] (a + 2) k

theorem fxs_ok {fixed : FuncId} (hF : FxFn P e fixed) {z o kk prev a : Nat} {k : NP} {Q : Post} {η : Nat → Value} {w0 w : World} {B X n : Nat} {cs : List Value} {d : Value} {out : Bs} {kd : IntKind} (h : CS w0 B X cs e w d out) (hz : η z = ptr X) (hv : cs[o]? = some (.int kd (n : Int))) (hp : η prev = d) (hza : z < a) (hpa : prev < a) (hn : n < 128) (h1 : 1 ≤ kk) (h8 : kk ≤ 8) (hl : out.length ≤ 900)
    (hk : ∀ η' w' d', CS w0 B X cs e w' d' (out ++ fx n kk) → (∀ i, i < a → η' i = η i) → η' (a + 3) = d' → k.wp P Q η' w') : (fxs fixed e z o kk prev a k).wp P Q η w := by
  refine np_op (vs := [.pointer (some ⟨X, o, none⟩)]) (by simp [SV.val, hz, Addr.add] <;> omega) (wp_load h.r hv ?_)
  refine np_op (vs := [.int kd (n : Int)]) (by simp [SV.val, upd]) ⟨kd, _, rfl, ?_⟩
  rw [wrap64 (n : Int) (by omega) (by omega)]
  refine cs_ca h (hF n kk hn h1 h8) (by simp [SV.val, upd]) (by simp only [upd]; rw [if_neg (by omega), if_neg (by omega)]; exact hp) (by omega) (by simp [fx]; omega) fun u d' w' h' => ?_
  exact hk _ w' d' h' (fun i hi => by simp only [upd]; rw [if_neg (by omega), if_neg (by omega), if_neg (by omega), if_neg (by omega)]) (by simp [upd])

theorem fxi_ok {fixed : FuncId} (hF : FxFn P e fixed) {z o kk prev a : Nat} {k : NP} {Q : Post} {η : Nat → Value} {w0 w : World} {B X n : Nat} {cs : List Value} {d : Value} {out : Bs} (h : CS w0 B X cs e w d out) (hz : η z = ptr X) (hv : cs[o]? = some (.int .i64 (n : Int))) (hp : η prev = d) (hza : z < a) (hpa : prev < a) (hn : n < 128) (h1 : 1 ≤ kk) (h8 : kk ≤ 8) (hl : out.length ≤ 900)
    (hk : ∀ η' w' d', CS w0 B X cs e w' d' (out ++ fx n kk) → (∀ i, i < a → η' i = η i) → η' (a + 2) = d' → k.wp P Q η' w') : (fxi fixed e z o kk prev a k).wp P Q η w := by
  refine np_op (vs := [.pointer (some ⟨X, o, none⟩)]) (by simp [SV.val, hz, Addr.add] <;> omega) (wp_load h.r hv ?_)
  refine cs_ca h (hF n kk hn h1 h8) (by simp [SV.val, upd]) (by simp only [upd]; rw [if_neg (by omega)]; exact hp) (by omega) (by simp [fx]; omega) fun u d' w' h' => ?_
  exact hk _ w' d' h' (fun i hi => by simp only [upd]; rw [if_neg (by omega), if_neg (by omega), if_neg (by omega)]) (by simp [upd])

abbrev kz3 (z : Nat) (k : NP) : NP := .keep (.cv .i64) [.s (z + 2)] (z + 3) <| .keep .load [.q z 1] (z + 2) <| .keep .load [.q z 0] (z + 1) k

/-- The first two numbers. -/
def hd2 (fixed : FuncId) (e : TypeId) (z : Nat) (k : NP) : NP := .draw <|
  .look .load [.q z 0] (z + 1) <|
  .look .load [.q z 1] (z + 2) <|
  .look (.cv .i64) [.s (z + 2)] (z + 3) <|
  .op (.call fixed) [.s (z + 1), .k (.int .i64 8)] (z + 4) <| kz3 z <|
  .op (.call fixed) [.s (z + 3), .k (.int .i64 4)] (z + 5) <| kz3 z <|
  .op (.app e) [.s (z + 4), .s (z + 5)] (z + 6) <| kz3 z k

theorem hd2_ok {fixed : FuncId} (hF : FxFn P e fixed) {z : Nat} {k : NP} {Q : Post} {η : Nat → Value} {w0 w : World} {X n0 n1 : Nat} {cs : List Value} {kd : IntKind} (hw : Keep [] w0 w) (hr : Row w X cs) (hz : η z = ptr X) (hv0 : cs[0]? = some (.int .i64 (n0 : Int))) (hv1 : cs[1]? = some (.int kd (n1 : Int))) (hn0 : n0 < 128) (hn1 : n1 < 128)
    (hk : ∀ η' w' d', CS w0 w.heap.size X cs e w' d' (fx n0 8 ++ fx n1 4) → (∀ i, i ≤ z → η' i = η i) → η' (z + 6) = d' → k.wp P Q η' w') : (hd2 fixed e z k).wp P Q η w := by
  have kd0 := keep_drawn w
  refine np_draw ?_
  generalize hw1 : ({ w with drawn := w.drawn + 1 } : World) = w1 at kd0 ⊢
  have r1 := hr.keep kd0 (by simp)
  have hXl := hr.lt
  have kp : ∀ {ζ : Nat → Value} {w' : World} {k : NP}, ζ z = ptr X → ζ (z + 1) = .int .i64 (n0 : Int) → ζ (z + 2) = .int kd (n1 : Int) → ζ (z + 3) = .int .i64 (n1 : Int) → Row w' X cs → k.wp P Q ζ w' → (kz3 z k).wp P Q ζ w' := fun {ζ w' k} y0 y1 y2 y3 r hk' => by
    refine np_keep (vs := [.int kd (n1 : Int)]) (by simp [SV.val, y2]) ⟨kd, _, rfl, by rw [y3, wrap64 (n1 : Int) (by omega) (by omega)], rfl⟩ ?_
    refine np_keep (vs := [.pointer (some ⟨X, 1, none⟩)]) (by simp [SV.val, y0, Addr.add]) (wp_load r hv1 ⟨y2.symm, rfl⟩) ?_
    exact np_keep (vs := [ptr X]) (by simp [SV.val, y0, add0]) (wp_load r hv0 ⟨y1.symm, rfl⟩) hk'
  refine np_look (vs := [ptr X]) (by simp [SV.val, hz, add0]) (wp_load r1 hv0 ⟨rfl, ?_⟩)
  refine np_look (vs := [.pointer (some ⟨X, 1, none⟩)]) (by simp [SV.val, upd, hz, Addr.add]) (wp_load r1 hv1 ⟨rfl, ?_⟩)
  refine np_look (vs := [.int kd (n1 : Int)]) (by simp [SV.val, upd]) ⟨kd, _, rfl, rfl, ?_⟩
  rw [wrap64 (n1 : Int) (by omega) (by omega)]
  refine np_op (vs := [.int .i64 (n0 : Int), .int .i64 ((8 : Nat) : Int)]) (by simp [SV.val, upd]) (gv_call (hF n0 8 hn0 (by omega) (by omega)) kd0.size fun d w2 k2 o2 => ?_)
  have r2 := r1.keep k2 (by simp)
  refine kp (by simp [upd, hz]) (by simp [upd]) (by simp [upd]) (by simp [upd]) r2 ?_
  refine np_op (vs := [.int .i64 (n1 : Int), .int .i64 ((4 : Nat) : Int)]) (by simp [SV.val, upd]) ((hF n1 4 hn1 (by omega) (by omega)) w2 _ fun u w3 k3 o3 => ?_)
  have r3 := r2.keep k3 (by simp)
  refine kp (by simp [upd, hz]) (by simp [upd]) (by simp [upd]) (by simp [upd]) r3 ?_
  have c3 : CS w0 w.heap.size X cs e w3 d (fx n0 8) := ⟨hw.then (kd0.then (k2.then k3)), r3, ownK o2 k3, hXl, hw.size⟩
  refine np_op (vs := [d, u]) (by simp [SV.val, upd]) (cs_app c3 (own_sl0 o3) (by unfold lim; simp [fx]) fun d' w4 c4 => ?_)
  refine kp (by simp [upd, hz]) (by simp [upd]) (by simp [upd]) (by simp [upd]) c4.r ?_
  exact hk _ w4 d' c4 (fun i hi => by simp only [upd]; rw [if_neg (by omega), if_neg (by omega), if_neg (by omega), if_neg (by omega), if_neg (by omega), if_neg (by omega)]) (by simp [upd])

/-! A batch. -/
abbrev zB (n : Int) : List Value := [.int .i64 0, .int .i32 n, .int .i32 0, .int .i8 0, .int .i32 0, .int .i16 0, .int .i32 0, .int .i64 0, .int .i64 0, .int .i64 0, .int .i16 0, .int .i32 0, .int .i32 0, .slice none 0 0]

def p_whole : FnP := ⟨.op (.box 14) [.s 0] 1 <|
  .chk 1 <|
  .op (.alloc (zB 0)) [] 2 <|
  .chk 2 <|
  .op .load [.q 1 13] 3 <|
  .op .len [.s 3] 4 <|
  .op (.bin .add) [.k (.int .i64 49), .s 4] 5 <|
  .op (.cv .i32) [.s 5] 6 <|
  .op (.store 1) [.q 1 1, .s 6] 7 <|
  .op (.loadN 14) [.q 1 0] 8 <|
  .op (.store 14) [.q 2 0, .s 8] 9 <|
  .ret [.q 2 0], [.cells 14]⟩

/-- A closed call that gives a value. -/
def Gc (P : Program) (f : FuncId) (args : List Value) (v : Value) : Prop :=
  ∀ (w : World) (K : Value → World → Prop), (∀ w', Keep [] w w' → K v w') → In.wp P (.call f) args w K

theorem whole_ok (hn : Named P) {f : FuncId} (hf : fnP P f 1 = some p_whole) : Gc P f [.agg (zB 0).toArray] (.agg (zB 49).toArray) := by
  intro w K hk
  refine calls_of_np hn (vs := [.agg (zB 0).toArray]) hf fun η hη => ?_
  have h0 : η 0 = .agg (zB 0).toArray := hη 0 (by simp)
  refine np_op (vs := [.agg (zB 0).toArray]) (by simp [SV.val, h0]) (wp_box (cs := zB 0) rfl fun X w1 rX hX k1 => ?_)
  refine ⟨⟨_, by simp only [upd]; rfl⟩, ?_⟩
  have hXl := rX.lt
  refine np_op (vs := []) rfl (wp_alloc fun Y w2 rY hY k2 => ?_)
  refine ⟨⟨_, by simp only [upd]; rfl⟩, ?_⟩
  have rX2 := rX.keep k2 (by simp)
  refine np_op (vs := [.pointer (some ⟨X, 13, none⟩)]) (by simp [SV.val, upd, Addr.add]) (wp_load rX2 rfl ?_)
  refine np_op (vs := [.slice none 0 0]) (by simp [SV.val, upd]) ⟨_, _, _, rfl, ?_⟩
  refine np_op (vs := [.int .i64 49, .int .i64 0]) (by simp [SV.val, upd, goInt]) ⟨.i64, _, _, _, rfl, rfl, ?_⟩
  refine np_op (vs := [.int .i64 49]) (by simp [SV.val, upd]; rfl) ⟨.i64, _, rfl, ?_⟩
  have e49 : IntKind.i32.wrap 49 = 49 := rfl
  rw [e49]
  refine np_op (vs := [.pointer (some ⟨X, 1, none⟩), .int .i32 49]) (by simp [SV.val, upd, Addr.add]) (wp_store rX2 (Fit.one rfl rfl) (by simp) fun w3 rX3 k3 => ?_)
  have rX3 : Row w3 X (zB 49) := rX3
  have rY3 := rY.keep k3 (by simp; omega)
  refine np_op (vs := [ptr X]) (by simp [SV.val, upd, add0]) (wp_loadN rX3 (by simp) ?_)
  refine np_op (vs := [ptr Y, .agg (zB 49).toArray]) (by simp [SV.val, upd, add0]) (wp_store rY3 (n := 14) ⟨rfl, by simp [Value.cells, Value.oneCell']⟩ (by simp) fun w4 rY4 k4 => ?_)
  have rY4 : Row w4 Y (zB 49) := rY4
  refine ⟨Y, 0, zB 49, by simp [SV.val, upd, add0], by simpa using rY4.range 0 14, rfl, ?_⟩
  have hs1 := k1.size
  have kk : Keep [] w w4 := ((k1.then k2).trans k3 fun x hx hlt => by simp at hx; omega).trans k4 fun x hx hlt => by simp at hx; omega
  have := hk w4 kk
  show K (pack _) w4
  simpa [pack] using this

def p_batchBytes (fixed : FuncId) (e : TypeId) : FnP := ⟨.op (.box 14) [.s 0] 1 <|
  .chk 1 <|
  hd2 fixed e 1 <|
  fxs fixed e 1 2 4 7 8 <|
  .op .load [.q 1 3] 12 <|
  .op (.cv .u8) [.s 12] 13 <|
  .op (.bsl e) [.s 13] 14 <|
  .op (.app e) [.s 11, .s 14] 15 <|
  fxs fixed e 1 4 4 15 16 <|
  fxs fixed e 1 5 2 19 20 <|
  fxs fixed e 1 6 4 23 24 <|
  fxi fixed e 1 7 8 27 28 <|
  fxi fixed e 1 8 8 30 31 <|
  fxi fixed e 1 9 8 33 34 <|
  fxs fixed e 1 10 2 36 37 <|
  fxs fixed e 1 11 4 40 41 <|
  fxs fixed e 1 12 4 44 45 <|
  .op .load [.q 1 13] 49 <|
  .op (.app e) [.s 48, .s 49] 50 <|
  .ret [.s 50], [.direct]⟩

def bBatch : Bs := [0, 0, 0, 0, 0, 0, 0, 0, 0, 0, 0, 49, 0, 0, 0, 0, 0, 0, 0, 0, 0, 0, 0, 0, 0, 0, 0, 0, 0, 0, 0, 0, 0, 0, 0, 0, 0, 0, 0, 0, 0, 0, 0, 0, 0, 0, 0, 0, 0, 0, 0, 0, 0, 0, 0, 0, 0, 0, 0, 0, 0]

theorem cs_u8 {w0 w : World} {B X : Nat} {cs : List Value} {d : Value} {out : Bs} {z o prev a : Nat} {k : NP} {Q : Post} {η : Nat → Value} {kd : IntKind} (h : CS w0 B X cs e w d out) (hz : η z = ptr X) (hv : cs[o]? = some (.int kd 0)) (hp : η prev = d) (hza : z < a) (hpa : prev < a) (hl : out.length ≤ 900)
    (hk : ∀ η' w' d', CS w0 B X cs e w' d' (out ++ [0]) → (∀ i, i < a → η' i = η i) → η' (a + 3) = d' → k.wp P Q η' w') :
    (NP.op .load [.q z o] a <| .op (.cv .u8) [.s a] (a + 1) <| .op (.bsl e) [.s (a + 1)] (a + 2) <| .op (.app e) [.s prev, .s (a + 2)] (a + 3) k).wp P Q η w := by
  refine np_op (vs := [.pointer (some ⟨X, o, none⟩)]) (by simp [SV.val, hz, Addr.add] <;> omega) (wp_load h.r hv ?_)
  refine np_op (vs := [.int kd 0]) (by simp [SV.val, upd]) ⟨kd, _, rfl, ?_⟩
  refine lay1 (d := d) h.o (b := 0) (by simp only [SV.val, upd, if_true]; rfl) (fun v => by simp only [SV.val, upd]; rw [if_neg (by omega), if_neg (by omega), if_neg (by omega)]; exact hp) (by unfold lim; omega) fun v d' w' o' b' => ?_
  exact hk _ w' d' ⟨keepB h.k b' h.b, rowB h.r h.x b', o', h.x, h.b⟩ (fun i hi => by simp only [upd]; rw [if_neg (by omega), if_neg (by omega), if_neg (by omega), if_neg (by omega)]) (by simp [upd])

theorem batchBytes_ok (hn : Named P) {f fixed : FuncId} (hf : fnP P f 1 = some (p_batchBytes fixed e)) (hF : FxFn P e fixed) : Gv P e f [.agg (zB 49).toArray] bBatch := by
  intro w K hk
  refine calls_of_np hn (vs := [.agg (zB 49).toArray]) hf fun η hη => ?_
  have h0 : η 0 = .agg (zB 49).toArray := hη 0 (by simp)
  refine np_op (vs := [.agg (zB 49).toArray]) (by simp [SV.val, h0]) (wp_box (cs := zB 49) rfl fun X w1 rX hX k1 => ?_)
  refine ⟨⟨_, by simp only [upd]; rfl⟩, ?_⟩
  refine hd2_ok (n0 := 0) (n1 := 49) hF k1 rX (by simp [upd]) rfl rfl (by omega) (by omega) fun η1 w2 d1 c1 f1 y1 => ?_
  have z1 : η1 1 = ptr X := by rw [f1 1 (by omega)]; simp [upd]
  refine fxs_ok (n := 0) hF c1 z1 rfl y1 (by omega) (by omega) (by omega) (by omega) (by omega) (by simp [fx]) fun η2 w3 d2 c2 f2 y2 => ?_
  have z2 : η2 1 = ptr X := by rw [f2 1 (by omega)]; exact z1
  refine cs_u8 (a := 12) c2 z2 rfl y2 (by omega) (by omega) (by simp [fx]) fun η3 w4 d3 c3 f3 y3 => ?_
  have z3 : η3 1 = ptr X := by rw [f3 1 (by omega)]; exact z2
  refine fxs_ok (n := 0) hF c3 z3 rfl y3 (by omega) (by omega) (by omega) (by omega) (by omega) (by simp [fx]) fun η4 w5 d4 c4 f4 y4 => ?_
  have z4 : η4 1 = ptr X := by rw [f4 1 (by omega)]; exact z3
  refine fxs_ok (n := 0) hF c4 z4 rfl y4 (by omega) (by omega) (by omega) (by omega) (by omega) (by simp [fx]) fun η5 w6 d5 c5 f5 y5 => ?_
  have z5 : η5 1 = ptr X := by rw [f5 1 (by omega)]; exact z4
  refine fxs_ok (n := 0) hF c5 z5 rfl y5 (by omega) (by omega) (by omega) (by omega) (by omega) (by simp [fx]) fun η6 w7 d6 c6 f6 y6 => ?_
  have z6 : η6 1 = ptr X := by rw [f6 1 (by omega)]; exact z5
  refine fxi_ok (n := 0) hF c6 z6 rfl y6 (by omega) (by omega) (by omega) (by omega) (by omega) (by simp [fx]) fun η7 w8 d7 c7 f7 y7 => ?_
  have z7 : η7 1 = ptr X := by rw [f7 1 (by omega)]; exact z6
  refine fxi_ok (n := 0) hF c7 z7 rfl y7 (by omega) (by omega) (by omega) (by omega) (by omega) (by simp [fx]) fun η8 w9 d8 c8 f8 y8 => ?_
  have z8 : η8 1 = ptr X := by rw [f8 1 (by omega)]; exact z7
  refine fxi_ok (n := 0) hF c8 z8 rfl y8 (by omega) (by omega) (by omega) (by omega) (by omega) (by simp [fx]) fun η9 w10 d9 c9 f9 y9 => ?_
  have z9 : η9 1 = ptr X := by rw [f9 1 (by omega)]; exact z8
  refine fxs_ok (n := 0) hF c9 z9 rfl y9 (by omega) (by omega) (by omega) (by omega) (by omega) (by simp [fx]) fun η10 w11 d10 c10 f10 y10 => ?_
  have z10 : η10 1 = ptr X := by rw [f10 1 (by omega)]; exact z9
  refine fxs_ok (n := 0) hF c10 z10 rfl y10 (by omega) (by omega) (by omega) (by omega) (by omega) (by simp [fx]) fun η11 w12 d11 c11 f11 y11 => ?_
  have z11 : η11 1 = ptr X := by rw [f11 1 (by omega)]; exact z10
  refine fxs_ok (n := 0) hF c11 z11 rfl y11 (by omega) (by omega) (by omega) (by omega) (by omega) (by simp [fx]) fun η12 w13 d12 c12 f12 y12 => ?_
  have z12 : η12 1 = ptr X := by rw [f12 1 (by omega)]; exact z11
  have y12 : η12 48 = d12 := y12
  refine np_op (vs := [.pointer (some ⟨X, 13, none⟩)]) (by simp [SV.val, z12, Addr.add]) (wp_load c12.r rfl ?_)
  refine np_op (vs := [d12, .slice none 0 0]) (by simp [SV.val, upd, y12]) (cs_app c12 (bs := []) (.inl ⟨rfl, rfl⟩) (by unfold lim; simp [fx]) fun d' w' c' => ?_)
  show K (pack _) w'
  have := hk d' w' c'.k (ownW c'.o c'.b)
  simpa [pack, SV.val, upd] using this

end
end Go.Ar

/- What the form writes of headers, members, old messages and records of nothing. -/
namespace Go.Ar
open Go.Lx Go.Nx Go.Km Go.Mx Go.Kb

set_option linter.unusedSimpArgs false
set_option linter.unusedVariables false

section
variable {P : Program} {e : TypeId}

theorem empty_str : ByteArray.empty = ⟨([] : Bs).toArray⟩ := rfl

theorem own_slice {w : World} {B : Nat} {d : Value} {out : Bs} (h : Own w B e d out) : ∃ a c, d = .slice a out.length c := by
  obtain ⟨a, c, h, _⟩ := sl_slice (own_sl h)
  exact ⟨a, c, h⟩

theorem wp_bslO {w : World} {bs : Bs} {K : Value → World → Prop} (hl : bs.length ≤ 100) (hk : ∀ d w', Keep [] w w' → Own w' w.heap.size e d bs → K d w') : In.wp P (.bsl e) (bs.map u8) w K := by
  refine ⟨fun v hv => ?_, ?_⟩
  · obtain ⟨b, _, rfl⟩ := List.mem_map.1 hv
    exact ⟨_, rfl⟩
  · obtain ⟨r, k⟩ := alloc_row (w := w) (bs.map u8) e
    have hmax : bs.length ≤ maxLen := by have : maxLen = 9223372036854775807 := rfl; omega
    have ho : Own (w.alloc (.cells (bs.map u8).toArray e)) w.heap.size e (.slice (some ⟨w.heap.size, 0, none⟩) bs.length bs.length) bs :=
      ⟨⟨by simp, .inr ⟨w.heap.size, bs.length, (bs.map u8).toArray, rfl, Nat.le_refl _, heap_alloc_new w _, Nat.le_refl _, hmax, by simp, by rw [Nat.mul_one]; exact List.take_of_length_le (by simp)⟩⟩, k.size⟩
    have := hk _ _ k ho
    rw [List.length_map]
    exact this

/-! Headers. -/
abbrev zH : List Value := [.string ByteArray.empty, .bool false, .slice none 0 0]
abbrev kh3 (k : NP) : NP := .keep .load [.q 1 0] 4 <| .keep .lenS [.s 2] 3 <| .keep .load [.q 1 0] 2 k

def p_headerBytes (vw ob : FuncId) (e : TypeId) : FnP := ⟨.op (.box 3) [.s 0] 1 <|
  .chk 1 <|
  .draw <|
  .look .load [.q 1 0] 2 <|
  .look .lenS [.s 2] 3 <|
  .look .load [.q 1 0] 4 <|
  .op (.call vw) [.s 3] 5 <| kh3 <|
  .op (.appS e) [.s 5, .s 4] 6 <| kh3 <|
  .op (.loadN 2) [.q 1 1] 7 <|
  .op (.call ob) [.s 7] 8 <|
  .op (.app e) [.s 6, .s 8] 9 <|
  .ret [.s 9], [.direct]⟩

theorem headerBytes_ok (hn : Named P) {f vw ob : FuncId} (hf : fnP P f 1 = some (p_headerBytes vw ob e)) (hV : VwFn P e vw) (hO : Gv P e ob [.agg #[.bool false, .slice none 0 0]] [0]) : Gv P e f [.agg zH.toArray] [0, 0] := by
  intro w K hk
  refine calls_of_np hn (vs := [.agg zH.toArray]) hf fun η hη => ?_
  have h0 : η 0 = .agg zH.toArray := hη 0 (by simp)
  refine np_op (vs := [.agg zH.toArray]) (by simp [SV.val, h0]) (wp_box (cs := zH) rfl fun X w1 rX hX k1 => ?_)
  refine ⟨⟨_, by simp only [upd]; rfl⟩, ?_⟩
  have hXl := rX.lt
  have kd := keep_drawn w1
  refine np_draw ?_
  generalize hw0 : ({ w1 with drawn := w1.drawn + 1 } : World) = w2 at kd ⊢
  have r2 := rX.keep kd (by simp)
  have kp : ∀ {ζ : Nat → Value} {w' : World} {k : NP} {Q : Post}, ζ 1 = ptr X → ζ 2 = .string ByteArray.empty → ζ 3 = .int .i64 0 → ζ 4 = .string ByteArray.empty → Row w' X zH → k.wp P Q ζ w' → (kh3 k).wp P Q ζ w' := fun {ζ w' k Q} z1 z2 z3 z4 r hk' => by
    refine np_keep (vs := [ptr X]) (by simp [SV.val, z1, add0]) (wp_load r rfl ⟨z4.symm, rfl⟩) ?_
    refine np_keep (vs := [.string ByteArray.empty]) (by simp [SV.val, z2]) ⟨_, rfl, by rw [z3]; rfl, rfl⟩ ?_
    exact np_keep (vs := [ptr X]) (by simp [SV.val, z1, add0]) (wp_load r rfl ⟨z2.symm, rfl⟩) hk'
  refine np_look (vs := [ptr X]) (by simp [SV.val, upd, add0]) (wp_load r2 rfl ⟨rfl, ?_⟩)
  refine np_look (vs := [.string ByteArray.empty]) (by simp [SV.val, upd]) ⟨_, rfl, rfl, ?_⟩
  refine np_look (vs := [ptr X]) (by simp [SV.val, upd, add0]) (wp_load r2 rfl ⟨rfl, ?_⟩)
  refine np_op (vs := [.int .i64 ((0 : Nat) : Int)]) (by simp [SV.val, upd]; rfl) (gv_call (hV 0 (.inl rfl)) kd.size fun d w3 k3 o3 => ?_)
  have r3 := r2.keep k3 (by simp)
  have e3 : goInt (ByteArray.empty.size) = .int .i64 0 := rfl
  refine kp (by simp [upd]) (by simp [upd]) (by simp [upd, goInt]) (by simp [upd]) r3 ?_
  have c3 : CS w w1.heap.size X zH e w3 d [0] := ⟨k1.then (kd.then k3), r3, o3, hXl, k1.size⟩
  refine np_op (vs := [d, .string ⟨([] : Bs).toArray⟩]) (by simp [SV.val, upd]; rfl) (wp_appS c3.o (by unfold lim; simp) fun d' w4 o4 b4 => ?_)
  have c4 : CS w w1.heap.size X zH e w4 d' [0] := ⟨keepB c3.k b4 c3.b, rowB c3.r c3.x b4, by simpa using o4, c3.x, c3.b⟩
  refine kp (by simp [upd]) (by simp [upd]) (by simp [upd, goInt]) (by simp [upd]) c4.r ?_
  refine np_op (vs := [.pointer (some ⟨X, 1, none⟩)]) (by simp [SV.val, upd, Addr.add]) (wp_loadN c4.r (by simp) ?_)
  refine cs_ca c4 hO (by simp [SV.val, upd]) (by simp [upd]) (by omega) (by simp) fun u d5 w5 c5 => ?_
  show K (pack _) w5
  simpa [pack, SV.val, upd] using hk d5 w5 c5.k (ownW c5.o c5.b)

/-! Members. -/
def skBody (fixed : FuncId) (e : TypeId) : NP := .op (.bin .lss) [.s 8, .s 6] 9 <|
    .ite (.s 9)
      (.nil)
      (.exit) <|
    .op (.ia 2) [.s 5, .s 8] 10 <|
    .chk 10 <|
    .op (.loadN 2) [.q 10 0] 11 <|
    .op (.alloc [.string ByteArray.empty, .slice none 0 0]) [] 12 <|
    .chk 12 <|
    .op (.store 2) [.q 12 0, .s 11] 13 <|
    .draw <|
    .look .load [.q 12 0] 14 <|
    .look .lenS [.s 14] 15 <|
    .look .load [.q 12 0] 16 <|
    .op (.call fixed) [.s 15, .k (.int .i64 2)] 17 <|
    .keep .load [.q 12 0] 16 <|
    .keep .lenS [.s 14] 15 <|
    .keep .load [.q 12 0] 14 <|
    .op (.app e) [.s 7, .s 17] 18 <|
    .keep .load [.q 12 0] 16 <|
    .keep .lenS [.s 14] 15 <|
    .keep .load [.q 12 0] 14 <|
    .op (.appS e) [.s 18, .s 16] 19 <|
    .keep .load [.q 12 0] 16 <|
    .keep .lenS [.s 14] 15 <|
    .keep .load [.q 12 0] 14 <|
    .op .load [.q 12 1] 20 <|
    .op .len [.s 20] 21 <|
    .op (.call fixed) [.s 21, .k (.int .i64 4)] 22 <|
    .op (.app e) [.s 19, .s 22] 23 <|
    .op .load [.q 12 1] 24 <|
    .op .len [.s 24] 25 <|
    .set 26 (.s 23) <|
    .set 27 (.k (.int .i64 0)) <|
    .loop
      (.op (.bin .lss) [.s 27, .s 25] 28 <|
      .ite (.s 28)
        (.nil)
        (.exit) <|
      .op (.ia 1) [.s 24, .s 27] 29 <|
      .chk 29 <|
      .op .load [.q 29 0] 30 <|
      .op (.cv .i64) [.s 30] 31 <|
      .op (.call fixed) [.s 31, .k (.int .i64 4)] 32 <|
      .op (.app e) [.s 26, .s 32] 33 <|
      .op (.bin .add) [.s 27, .k (.int .i64 1)] 34 <|
      .set 35 (.s 33) <|
      .set 36 (.s 34) <|
      .set 26 (.s 35) <|
      .set 27 (.s 36) <|
      .nil) <|
    .op (.bin .add) [.s 8, .k (.int .i64 1)] 37 <|
    .set 38 (.s 26) <|
    .set 39 (.s 37) <|
    .set 7 (.s 38) <|
    .set 8 (.s 39) <|
    .nil

def p_stickyBytes (fixed : FuncId) (e : TypeId) : FnP := ⟨.op (.box 2) [.s 0] 1 <|
  .chk 1 <|
  .op .load [.q 1 0] 2 <|
  .op .len [.s 2] 3 <|
  .op (.call fixed) [.s 3, .k (.int .i64 4)] 4 <|
  .op .load [.q 1 0] 5 <|
  .op .len [.s 5] 6 <|
  .set 7 (.s 4) <|
  .set 8 (.k (.int .i64 0)) <|
  .loop (skBody fixed e) <|
  .op .load [.q 1 1] 40 <|
  .op (.bin .neq) [.s 40, .k (.int .i32 (-1))] 41 <|
  .ite (.s 41)
    (.op .load [.q 1 1] 42 <|
    .op (.cv .i64) [.s 42] 43 <|
    .op (.call fixed) [.s 43, .k (.int .i64 4)] 44 <|
    .op (.app e) [.s 7, .s 44] 45 <|
    .set 46 (.s 45) <|
    .nil)
    (.set 46 (.s 7) <|
    .nil) <|
  .ret [.s 46], [.direct]⟩

theorem stickyBytes_ok (hn : Named P) {f fixed : FuncId} (hf : fnP P f 1 = some (p_stickyBytes fixed e)) (hF : FxFn P e fixed) : Gv P e f [.agg #[.slice none 0 0, .int .i32 0]] [0, 0, 0, 0, 0, 0, 0, 0] := by
  intro w K hk
  refine calls_of_np hn (vs := [.agg #[.slice none 0 0, .int .i32 0]]) hf fun η hη => ?_
  have h0 : η 0 = .agg #[.slice none 0 0, .int .i32 0] := hη 0 (by simp)
  refine np_op (vs := [.agg #[.slice none 0 0, .int .i32 0]]) (by simp [SV.val, h0]) (wp_box (cs := [.slice none 0 0, .int .i32 0]) rfl fun X w1 rX hX k1 => ?_)
  refine ⟨⟨_, by simp only [upd]; rfl⟩, ?_⟩
  have hXl := rX.lt
  refine np_op (vs := [ptr X]) (by simp [SV.val, upd, add0]) (wp_load rX rfl ?_)
  refine np_op (vs := [.slice none 0 0]) (by simp [SV.val, upd]) ⟨_, _, _, rfl, ?_⟩
  refine np_op (vs := [.int .i64 ((0 : Nat) : Int), .int .i64 ((4 : Nat) : Int)]) (by simp [SV.val, upd, goInt]) (gv_call (hF 0 4 (by omega) (by omega) (by omega)) (Nat.le_refl _) fun d w2 k2 o2 => ?_)
  have r2 := rX.keep k2 (by simp)
  have c2 : CS w w1.heap.size X [.slice none 0 0, .int .i32 0] e w2 d (fx 0 4) := ⟨k1.then k2, r2, o2, hXl, k1.size⟩
  refine np_op (vs := [ptr X]) (by simp [SV.val, upd, add0]) (wp_load r2 rfl ?_)
  refine np_op (vs := [.slice none 0 0]) (by simp [SV.val, upd]) ⟨_, _, _, rfl, ?_⟩
  refine lp (fun m η' w' => w' = w2 ∧ η' 1 = ptr X ∧ η' 6 = .int .i64 0 ∧ η' 7 = d ∧ η' 8 = .int .i64 0) 0 ⟨rfl, by simp [upd], by simp [upd, goInt], by simp [upd, SV.val], by simp [upd, SV.val]⟩ ?_
  rintro m η' w' ⟨rfl, z1, z6, z7, z8⟩
  refine np_op (vs := [.int .i64 0, .int .i64 0]) (by simp [SV.val, z6, z8]) ⟨.i64, _, _, _, rfl, rfl, ?_⟩
  refine iF (by simp [SV.val, upd]) ?_
  refine np_op (vs := [.pointer (some ⟨X, 1, none⟩)]) (by simp [SV.val, upd, z1, Addr.add]) (wp_load c2.r rfl ?_)
  refine np_op (vs := [.int .i32 0, .int .i32 (-1)]) (by simp [SV.val, upd]) ⟨.i32, _, _, _, rfl, rfl, ?_⟩
  refine iT (by simp [SV.val, upd]) ?_
  refine np_op (vs := [.pointer (some ⟨X, 1, none⟩)]) (by simp [SV.val, upd, z1, Addr.add]) (wp_load c2.r rfl ?_)
  refine np_op (vs := [.int .i32 0]) (by simp [SV.val, upd]) ⟨.i32, _, rfl, ?_⟩
  refine cs_ca c2 (hF 0 4 (by omega) (by omega) (by omega)) (by simp [SV.val, upd]; rfl) (by simp [upd, z7]) (by omega) (by simp [fx]) fun u d5 w5 c5 => ?_
  show K (pack _) w5
  have := hk d5 w5 c5.k (ownW c5.o c5.b)
  simpa [pack, SV.val, upd] using this

/-! Old messages. -/
abbrev zO : List Value := [.int .i64 0, .int .i32 0, .int .i32 0, .int .i8 0, .int .i8 0, .int .i64 0, .bool false, .slice none 0 0, .bool false, .slice none 0 0]
abbrev ko2 (k : NP) : NP := .keep (.loadN 2) [.q 2 8] 25 <| .keep (.loadN 2) [.q 2 6] 24 k

def p_oldBytes (fixed fo : FuncId) (e : TypeId) : FnP := ⟨.op (.box 10) [.s 1] 2 <|
  .chk 2 <|
  hd2 fixed e 2 <|
  fxs fixed e 2 2 4 8 9 <|
  .op .load [.q 2 3] 13 <|
  .op (.cv .u8) [.s 13] 14 <|
  .op .load [.q 2 4] 15 <|
  .op (.cv .u8) [.s 15] 16 <|
  .op (.bsl e) [.s 14, .s 16] 17 <|
  .op (.app e) [.s 12, .s 17] 18 <|
  .op (.bin .gtr) [.s 0, .k (.int .i64 0)] 19 <|
  .ite (.s 19)
    (fxi fixed e 2 5 8 18 20 <| .set 23 (.s 22) <| .nil)
    (.set 23 (.s 18) <| .nil) <|
  .draw <|
  .look (.loadN 2) [.q 2 6] 24 <|
  .look (.loadN 2) [.q 2 8] 25 <|
  .op (.call fo) [.s 24] 26 <| ko2 <|
  .op (.app e) [.s 23, .s 26] 27 <| ko2 <|
  .op (.call fo) [.s 25] 28 <| ko2 <|
  .op (.app e) [.s 27, .s 28] 29 <| ko2 <|
  .ret [.s 29], [.direct]⟩

theorem oldBytes_ok (hn : Named P) {f fixed fo : FuncId} (hf : fnP P f 2 = some (p_oldBytes fixed fo e)) (hF : FxFn P e fixed) (hO : Gv P e fo [.agg #[.bool false, .slice none 0 0]] (fx 0 4)) {v : Int} {n : Nat} (hv : v = 0 ∧ n = 26 ∨ v = 1 ∧ n = 34) : Gv P e f [.int .i64 v, .agg zO.toArray] (List.replicate n 0) := by
  intro w K hk
  refine calls_of_np hn (vs := [.int .i64 v, .agg zO.toArray]) hf fun η hη => ?_
  have h0 : η 0 = .int .i64 v := hη 0 (by simp)
  have h1 : η 1 = .agg zO.toArray := hη 1 (by simp)
  refine np_op (vs := [.agg zO.toArray]) (by simp [SV.val, h1]) (wp_box (cs := zO) rfl fun X w1 rX hX k1 => ?_)
  refine ⟨⟨_, by simp only [upd]; rfl⟩, ?_⟩
  refine hd2_ok (n0 := 0) (n1 := 0) hF k1 rX (by simp [upd]) rfl rfl (by omega) (by omega) fun η1 w2 d1 c1 f1 y1 => ?_
  have z1 : η1 2 = ptr X := by rw [f1 2 (by omega)]; simp [upd]
  have x1 : η1 0 = .int .i64 v := by rw [f1 0 (by omega)]; simp [upd, h0]
  refine fxs_ok (n := 0) hF c1 z1 rfl y1 (by omega) (by omega) (by omega) (by omega) (by omega) (by simp [fx]) fun η2 w3 d2 c2 f2 y2 => ?_
  have z2 : η2 2 = ptr X := by rw [f2 2 (by omega)]; exact z1
  have x2 : η2 0 = .int .i64 v := by rw [f2 0 (by omega)]; exact x1
  have y2 : η2 12 = d2 := y2
  refine np_op (vs := [.pointer (some ⟨X, 3, none⟩)]) (by simp [SV.val, z2, Addr.add]) (wp_load c2.r rfl ?_)
  refine np_op (vs := [.int .i8 0]) (by simp [SV.val, upd]) ⟨.i8, _, rfl, ?_⟩
  refine np_op (vs := [.pointer (some ⟨X, 4, none⟩)]) (by simp [SV.val, upd, z2, Addr.add]) (wp_load c2.r rfl ?_)
  refine np_op (vs := [.int .i8 0]) (by simp [SV.val, upd]) ⟨.i8, _, rfl, ?_⟩
  refine np_op (vs := ([0, 0] : Bs).map u8) (by simp [SV.val, upd]; rfl) (wp_bslO (by simp) fun u w4 k4 o4 => ?_)
  refine np_op (vs := [d2, u]) (by simp [SV.val, upd, y2]) (cs_app (c2.keep k4) (own_sl0 o4) (by unfold lim; simp [fx]) fun d3 w5 c5 => ?_)
  have tail : ∀ (η' : Nat → Value) (w' : World) (d : Value) (out : Bs), η' 2 = ptr X → η' 23 = d → CS w w1.heap.size X zO e w' d out → out ++ fx 0 4 ++ fx 0 4 = List.replicate n 0 → out.length ≤ 100 →
      NP.wp P (.draw <| .look (.loadN 2) [.q 2 6] 24 <| .look (.loadN 2) [.q 2 8] 25 <| .op (.call fo) [.s 24] 26 <| ko2 <| .op (.app e) [.s 23, .s 26] 27 <| ko2 <| .op (.call fo) [.s 25] 28 <| ko2 <| .op (.app e) [.s 27, .s 28] 29 <| ko2 <| .ret [.s 29]) (postP [.direct] K) η' w' := by
    intro η' w' d out s2 s23 cc hout hlen
    have kd := keep_drawn w'
    refine np_draw ?_
    generalize hw0 : ({ w' with drawn := w'.drawn + 1 } : World) = w0 at kd ⊢
    have c0 := cc.keep kd
    have kp : ∀ {ζ : Nat → Value} {w' : World} {k : NP} {Q : Post}, ζ 2 = ptr X → ζ 24 = .agg #[.bool false, .slice none 0 0] → ζ 25 = .agg #[.bool false, .slice none 0 0] → Row w' X zO → k.wp P Q ζ w' → (ko2 k).wp P Q ζ w' := fun {ζ w' k Q} y2 y24 y25 r hk' => by
      refine np_keep (vs := [.pointer (some ⟨X, 8, none⟩)]) (by simp [SV.val, y2, Addr.add]) (wp_loadN r (by simp) ⟨y25.symm, rfl⟩) ?_
      exact np_keep (vs := [.pointer (some ⟨X, 6, none⟩)]) (by simp [SV.val, y2, Addr.add]) (wp_loadN r (by simp) ⟨y24.symm, rfl⟩) hk'
    refine np_look (vs := [.pointer (some ⟨X, 6, none⟩)]) (by simp [SV.val, s2, Addr.add]) (wp_loadN c0.r (by simp) ⟨rfl, ?_⟩)
    refine np_look (vs := [.pointer (some ⟨X, 8, none⟩)]) (by simp [SV.val, upd, s2, Addr.add]) (wp_loadN c0.r (by simp) ⟨rfl, ?_⟩)
    refine np_op (vs := [.agg #[.bool false, .slice none 0 0]]) (by simp [SV.val, upd]) (hO w0 _ fun u1 w1' k1' o1' => ?_)
    have c1' := c0.keep k1'
    refine kp (by simp [upd, s2]) (by simp [upd]) (by simp [upd]) c1'.r ?_
    refine np_op (vs := [d, u1]) (by simp [SV.val, upd, s23]) (cs_app c1' (own_sl0 o1') (by unfold lim; simp [fx]; omega) fun d2' w2' c2' => ?_)
    refine kp (by simp [upd, s2]) (by simp [upd]) (by simp [upd]) c2'.r ?_
    refine np_op (vs := [.agg #[.bool false, .slice none 0 0]]) (by simp [SV.val, upd]) (hO w2' _ fun u2 w3' k3' o3' => ?_)
    have c3' := c2'.keep k3'
    refine kp (by simp [upd, s2]) (by simp [upd]) (by simp [upd]) c3'.r ?_
    refine np_op (vs := [d2', u2]) (by simp [SV.val, upd]) (cs_app c3' (own_sl0 o3') (by unfold lim; simp [fx]; omega) fun d4' w4' c4' => ?_)
    refine kp (by simp [upd, s2]) (by simp [upd]) (by simp [upd]) c4'.r ?_
    rw [hout] at c4'
    show K (pack _) w4'
    simpa [pack, SV.val, upd] using hk d4' w4' c4'.k (ownW c4'.o c4'.b)
  refine np_op (vs := [.int .i64 v, .int .i64 0]) (by simp [SV.val, upd, x2]) ⟨.i64, _, _, _, rfl, rfl, ?_⟩
  rcases hv with ⟨rfl, rfl⟩ | ⟨rfl, rfl⟩
  · refine iF (by simp [SV.val, upd]) ?_
    exact tail _ _ d3 _ (by simp [upd, z2]) (by simp [upd, SV.val]) c5 (by rfl) (by simp [fx])
  · refine iT (by simp [SV.val, upd]) ?_
    refine fxi_ok (n := 0) hF c5 (by simp [upd, z2]) rfl (by simp [upd]) (by omega) (by omega) (by omega) (by omega) (by omega) (by simp [fx]) fun η3 w6 d4 c6 f3 y3 => ?_
    have z3 : η3 2 = ptr X := by rw [f3 2 (by omega)]; simp [upd, z2]
    have y3 : η3 22 = d4 := y3
    exact tail _ _ d4 _ (by simp [upd, z3]) (by simp [upd, SV.val, y3]) c6 (by rfl) (by simp [fx])

/-! Records. -/
abbrev zR (n : Int) : List Value := [.int .i32 n, .int .i8 0, .int .i64 0, .int .i32 0, .bool false, .slice none 0 0, .bool false, .slice none 0 0, .slice none 0 0]
abbrev kr3 (k : NP) : NP := .keep .load [.q 1 2] 4 <| .keep (.cv .u8) [.s 2] 3 <| .keep .load [.q 1 1] 2 k

def rrLoop (hb : FuncId) (e : TypeId) : NP := .op (.bin .lss) [.s 33, .s 31] 34 <|
    .ite (.s 34)
      (.nil)
      (.exit) <|
    .op (.ia 3) [.s 30, .s 33] 35 <|
    .chk 35 <|
    .op (.loadN 3) [.q 35 0] 36 <|
    .op (.alloc [.string ByteArray.empty, .bool false, .slice none 0 0]) [] 37 <|
    .chk 37 <|
    .op (.store 3) [.q 37 0, .s 36] 38 <|
    .op (.loadN 3) [.q 37 0] 39 <|
    .op (.call hb) [.s 39] 40 <|
    .op (.app e) [.s 32, .s 40] 41 <|
    .op (.bin .add) [.s 33, .k (.int .i64 1)] 42 <|
    .set 43 (.s 41) <|
    .set 44 (.s 42) <|
    .set 32 (.s 43) <|
    .set 33 (.s 44) <|
    .nil

def rrRest (vw ob hb : FuncId) (e : TypeId) : NP := .op .load [.q 1 3] 16 <|
  .op (.cv .i64) [.s 16] 17 <|
  .op (.call vw) [.s 17] 18 <|
  .op (.app e) [.s 15, .s 18] 19 <|
  .op (.loadN 2) [.q 1 4] 20 <|
  .op (.call ob) [.s 20] 21 <|
  .op (.app e) [.s 19, .s 21] 22 <|
  .op (.loadN 2) [.q 1 6] 23 <|
  .op (.call ob) [.s 23] 24 <|
  .op (.app e) [.s 22, .s 24] 25 <|
  .op .load [.q 1 8] 26 <|
  .op .len [.s 26] 27 <|
  .op (.call vw) [.s 27] 28 <|
  .op (.app e) [.s 25, .s 28] 29 <|
  .op .load [.q 1 8] 30 <|
  .op .len [.s 30] 31 <|
  .set 32 (.s 29) <|
  .set 33 (.k (.int .i64 0)) <|
  .loop (rrLoop hb e) <|
  .ret [.s 32]

def p_recordRest (vw ob hb : FuncId) (e : TypeId) : FnP := ⟨.op (.box 9) [.s 0] 1 <|
  .chk 1 <|
  .draw <|
  .look .load [.q 1 1] 2 <|
  .look (.cv .u8) [.s 2] 3 <|
  .look .load [.q 1 2] 4 <|
  .flip 5 <|
  .ite (.s 5)
    (.op (.bsl e) [.s 3] 6 <| kr3 <|
    .op (.call vw) [.s 4] 7 <| kr3 <|
    .op (.app e) [.s 6, .s 7] 8 <| kr3 <|
    .set 12 (.s 6) <|
    .set 13 (.s 7) <|
    .set 14 (.s 8) <|
    .set 15 (.s 8) <|
    .nil)
    (.op (.call vw) [.s 4] 9 <| kr3 <|
    .op (.bsl e) [.s 3] 10 <| kr3 <|
    .op (.app e) [.s 10, .s 9] 11 <| kr3 <|
    .set 12 (.s 10) <|
    .set 13 (.s 9) <|
    .set 14 (.s 11) <|
    .set 15 (.s 11) <|
    .nil) <|
  rrRest vw ob hb e, [.direct]⟩

theorem recordRest_ok (hn : Named P) {f vw ob hb : FuncId} (hf : fnP P f 1 = some (p_recordRest vw ob hb e)) (hV : VwFn P e vw) (hO : Gv P e ob [.agg #[.bool false, .slice none 0 0]] [0]) (n : Int) : Gv P e f [.agg (zR n).toArray] [0, 0, 0, 0, 0, 0] := by
  intro w K hk
  refine calls_of_np hn (vs := [.agg (zR n).toArray]) hf fun η hη => ?_
  have h0 : η 0 = .agg (zR n).toArray := hη 0 (by simp)
  refine np_op (vs := [.agg (zR n).toArray]) (by simp [SV.val, h0]) (wp_box (cs := zR n) rfl fun X w1 rX hX k1 => ?_)
  refine ⟨⟨_, by simp only [upd]; rfl⟩, ?_⟩
  have hXl := rX.lt
  have kd := keep_drawn w1
  refine np_draw ?_
  generalize hw0 : ({ w1 with drawn := w1.drawn + 1 } : World) = w2 at kd ⊢
  have r2 := rX.keep kd (by simp)
  have V0 := hV 0 (.inl rfl)
  have kp : ∀ {ζ : Nat → Value} {w' : World} {k : NP} {Q : Post}, ζ 1 = ptr X → ζ 2 = .int .i8 0 → ζ 3 = u8 0 → ζ 4 = .int .i64 0 → Row w' X (zR n) → k.wp P Q ζ w' → (kr3 k).wp P Q ζ w' := fun {ζ w' k Q} z1 z2 z3 z4 r hk' => by
    refine np_keep (vs := [.pointer (some ⟨X, 2, none⟩)]) (by simp [SV.val, z1, Addr.add]) (wp_load r rfl ⟨z4.symm, rfl⟩) ?_
    refine np_keep (vs := [.int .i8 0]) (by simp [SV.val, z2]) ⟨.i8, _, rfl, by rw [z3]; rfl, rfl⟩ ?_
    exact np_keep (vs := [.pointer (some ⟨X, 1, none⟩)]) (by simp [SV.val, z1, Addr.add]) (wp_load r rfl ⟨z2.symm, rfl⟩) hk'
  -- behind the first two
  have tail : ∀ (η' : Nat → Value) (w' : World) (d : Value), η' 1 = ptr X → η' 15 = d → CS w w1.heap.size X (zR n) e w' d [0, 0] → NP.wp P (rrRest vw ob hb e) (postP [.direct] K) η' w' := by
    intro η' w' d s1 s15 cc
    refine np_op (vs := [.pointer (some ⟨X, 3, none⟩)]) (by simp [SV.val, s1, Addr.add]) (wp_load cc.r rfl ?_)
    refine np_op (vs := [.int .i32 0]) (by simp [SV.val, upd]) ⟨.i32, _, rfl, ?_⟩
    refine cs_ca cc V0 (by simp [SV.val, upd]; rfl) (by simp [upd, s15]) (by omega) (by simp) fun u1 d2 w2 c2 => ?_
    refine np_op (vs := [.pointer (some ⟨X, 4, none⟩)]) (by simp [SV.val, upd, s1, Addr.add]) (wp_loadN c2.r (by simp) ?_)
    refine cs_ca c2 hO (by simp [SV.val, upd]) (by simp [upd]) (by omega) (by simp) fun u2 d3 w3 c3 => ?_
    refine np_op (vs := [.pointer (some ⟨X, 6, none⟩)]) (by simp [SV.val, upd, s1, Addr.add]) (wp_loadN c3.r (by simp) ?_)
    refine cs_ca c3 hO (by simp [SV.val, upd]) (by simp [upd]) (by omega) (by simp) fun u3 d4 w4 c4 => ?_
    refine np_op (vs := [.pointer (some ⟨X, 8, none⟩)]) (by simp [SV.val, upd, s1, Addr.add]) (wp_load c4.r rfl ?_)
    refine np_op (vs := [.slice none 0 0]) (by simp [SV.val, upd]) ⟨_, _, _, rfl, ?_⟩
    refine cs_ca c4 V0 (by simp [SV.val, upd, goInt]) (by simp [upd]) (by omega) (by simp) fun u4 d5 w5 c5 => ?_
    refine np_op (vs := [.pointer (some ⟨X, 8, none⟩)]) (by simp [SV.val, upd, s1, Addr.add]) (wp_load c5.r rfl ?_)
    refine np_op (vs := [.slice none 0 0]) (by simp [SV.val, upd]) ⟨_, _, _, rfl, ?_⟩
    refine lp (fun m η3 w3 => w3 = w5 ∧ η3 31 = .int .i64 0 ∧ η3 32 = d5 ∧ η3 33 = .int .i64 0) 0 ⟨rfl, by simp [upd, goInt], by simp [upd, SV.val], by simp [upd, SV.val]⟩ ?_
    rintro m η3 w3 ⟨rfl, t31, t32, t33⟩
    refine np_op (vs := [.int .i64 0, .int .i64 0]) (by simp [SV.val, t31, t33]) ⟨.i64, _, _, _, rfl, rfl, ?_⟩
    refine iF (by simp [SV.val, upd]) ?_
    show K (pack _) w3
    simpa [pack, SV.val, upd, t32] using hk d5 w3 c5.k (ownW c5.o c5.b)
  refine np_look (vs := [.pointer (some ⟨X, 1, none⟩)]) (by simp [SV.val, upd, Addr.add]) (wp_load r2 rfl ⟨rfl, ?_⟩)
  refine np_look (vs := [.int .i8 0]) (by simp [SV.val, upd]) ⟨.i8, _, rfl, rfl, ?_⟩
  refine np_look (vs := [.pointer (some ⟨X, 2, none⟩)]) (by simp [SV.val, upd, Addr.add]) (wp_load r2 rfl ⟨rfl, ?_⟩)
  have e3 : Value.int .u8 (IntKind.u8.wrap 0) = u8 0 := rfl
  rw [e3]
  intro t
  cases t with
  | true =>
    refine iT (by simp [SV.val, upd]) ?_
    refine np_op (vs := ([0] : Bs).map u8) (by simp [SV.val, upd]) (wp_bslO (by simp) fun d w3 k3 o3 => ?_)
    have r3 := r2.keep k3 (by simp)
    have c3 : CS w w1.heap.size X (zR n) e w3 d [0] := ⟨k1.then (kd.then k3), r3, ownW o3 kd.size, hXl, k1.size⟩
    refine kp (by simp [upd]) (by simp [upd]) (by simp [upd]) (by simp [upd]) r3 ?_
    refine np_op (vs := [.int .i64 ((0 : Nat) : Int)]) (by simp [SV.val, upd]) (V0 w3 _ fun u w4 k4 o4 => ?_)
    have c4 := c3.keep k4
    refine kp (by simp [upd]) (by simp [upd]) (by simp [upd]) (by simp [upd]) c4.r ?_
    refine np_op (vs := [d, u]) (by simp [SV.val, upd]) (cs_app c4 (own_sl0 o4) (by unfold lim; simp) fun d5 w5 c5 => ?_)
    refine kp (by simp [upd]) (by simp [upd]) (by simp [upd]) (by simp [upd]) c5.r ?_
    exact tail _ _ d5 (by simp [upd]) (by simp [upd, SV.val]) c5
  | false =>
    refine iF (by simp [SV.val, upd]) ?_
    refine np_op (vs := [.int .i64 ((0 : Nat) : Int)]) (by simp [SV.val, upd]) (V0 w2 _ fun u w3 k3 o3 => ?_)
    have r3 := r2.keep k3 (by simp)
    refine kp (by simp [upd]) (by simp [upd]) (by simp [upd]) (by simp [upd]) r3 ?_
    refine np_op (vs := ([0] : Bs).map u8) (by simp [SV.val, upd]) (wp_bslO (by simp) fun d w4 k4 o4 => ?_)
    have r4 := r3.keep k4 (by simp)
    have c4 : CS w w1.heap.size X (zR n) e w4 d [0] := ⟨k1.then (kd.then (k3.then k4)), r4, ownW o4 (Nat.le_trans kd.size k3.size), hXl, k1.size⟩
    refine kp (by simp [upd]) (by simp [upd]) (by simp [upd]) (by simp [upd]) r4 ?_
    refine np_op (vs := [d, u]) (by simp [SV.val, upd]) (cs_app c4 (own_sl0 (ownK o3 k4)) (by unfold lim; simp) fun d5 w5 c5 => ?_)
    refine kp (by simp [upd]) (by simp [upd]) (by simp [upd]) (by simp [upd]) c5.r ?_
    exact tail _ _ d5 (by simp [upd]) (by simp [upd, SV.val]) c5

def p_measured (rr : FuncId) : FnP := ⟨.op (.box 9) [.s 0] 1 <|
  .chk 1 <|
  .op (.alloc (zR 0)) [] 2 <|
  .chk 2 <|
  .op (.loadN 9) [.q 1 0] 3 <|
  .op (.call rr) [.s 3] 4 <|
  .op .len [.s 4] 5 <|
  .op (.cv .i32) [.s 5] 6 <|
  .op (.store 1) [.q 1 0, .s 6] 7 <|
  .op (.loadN 9) [.q 1 0] 8 <|
  .op (.store 9) [.q 2 0, .s 8] 9 <|
  .ret [.q 2 0], [.cells 9]⟩

theorem measured_ok (hn : Named P) {f rr : FuncId} (hf : fnP P f 1 = some (p_measured rr)) (hR : ∀ n, Gv P e rr [.agg (zR n).toArray] [0, 0, 0, 0, 0, 0]) : Gc P f [.agg (zR 0).toArray] (.agg (zR 6).toArray) := by
  intro w K hk
  refine calls_of_np hn (vs := [.agg (zR 0).toArray]) hf fun η hη => ?_
  have h0 : η 0 = .agg (zR 0).toArray := hη 0 (by simp)
  refine np_op (vs := [.agg (zR 0).toArray]) (by simp [SV.val, h0]) (wp_box (cs := zR 0) rfl fun X w1 rX hX k1 => ?_)
  refine ⟨⟨_, by simp only [upd]; rfl⟩, ?_⟩
  have hXl := rX.lt
  refine np_op (vs := []) rfl (wp_alloc fun Y w2 rY hY k2 => ?_)
  refine ⟨⟨_, by simp only [upd]; rfl⟩, ?_⟩
  have hYl := rY.lt
  have rX2 := rX.keep k2 (by simp)
  refine np_op (vs := [ptr X]) (by simp [SV.val, upd, add0]) (wp_loadN rX2 (by simp) ?_)
  refine np_op (vs := [.agg (zR 0).toArray]) (by simp [SV.val, upd]) (hR 0 w2 _ fun d w3 k3 o3 => ?_)
  have rX3 := rX2.keep k3 (by simp)
  have rY3 := rY.keep k3 (by simp)
  obtain ⟨a, c, hd⟩ := own_slice o3
  refine np_op (vs := [d]) (by simp [SV.val, upd]) ⟨a, _, c, by rw [hd], ?_⟩
  refine np_op (vs := [.int .i64 6]) (by simp [SV.val, upd, goInt]) ⟨.i64, _, rfl, ?_⟩
  have e6 : IntKind.i32.wrap 6 = 6 := rfl
  rw [e6]
  refine np_op (vs := [ptr X, .int .i32 6]) (by simp [SV.val, upd, add0]) (wp_store rX3 (Fit.one rfl rfl) (by simp) fun w4 rX4 k4 => ?_)
  have rX4 : Row w4 X (zR 6) := rX4
  have rY4 := rY3.keep k4 (by simp; omega)
  refine np_op (vs := [ptr X]) (by simp [SV.val, upd, add0]) (wp_loadN rX4 (by simp) ?_)
  refine np_op (vs := [ptr Y, .agg (zR 6).toArray]) (by simp [SV.val, upd, add0]) (wp_store rY4 (n := 9) ⟨rfl, by simp [Value.cells, Value.oneCell']⟩ (by simp) fun w5 rY5 k5 => ?_)
  have rY5 : Row w5 Y (zR 6) := rY5
  refine ⟨Y, 0, zR 6, by simp [SV.val, upd, add0], by simpa using rY5.range 0 9, rfl, ?_⟩
  have hs1 := k1.size
  have kk : Keep [] w w5 := ((k1.then (k2.then k3)).trans k4 fun x hx hlt => by simp at hx; omega).trans k5 fun x hx hlt => by simp at hx; omega
  have := hk w5 kk
  show K (pack _) w5
  simpa [pack] using this

abbrev kb3 (k : NP) : NP := .keep (.loadN 9) [.q 1 0] 4 <| .keep (.cv .i64) [.s 2] 3 <| .keep .load [.q 1 0] 2 k

def p_recordBytes (vw rr : FuncId) (e : TypeId) : FnP := ⟨.op (.box 9) [.s 0] 1 <|
  .chk 1 <|
  .draw <|
  .look .load [.q 1 0] 2 <|
  .look (.cv .i64) [.s 2] 3 <|
  .look (.loadN 9) [.q 1 0] 4 <|
  .op (.call vw) [.s 3] 5 <| kb3 <|
  .op (.call rr) [.s 4] 6 <| kb3 <|
  .op (.app e) [.s 5, .s 6] 7 <| kb3 <|
  .ret [.s 7], [.direct]⟩

theorem recordBytes_ok (hn : Named P) {f vw rr : FuncId} (hf : fnP P f 1 = some (p_recordBytes vw rr e)) (hV : VwFn P e vw) (hR : ∀ n, Gv P e rr [.agg (zR n).toArray] [0, 0, 0, 0, 0, 0]) : Gv P e f [.agg (zR 6).toArray] [12, 0, 0, 0, 0, 0, 0] := by
  intro w K hk
  refine calls_of_np hn (vs := [.agg (zR 6).toArray]) hf fun η hη => ?_
  have h0 : η 0 = .agg (zR 6).toArray := hη 0 (by simp)
  refine np_op (vs := [.agg (zR 6).toArray]) (by simp [SV.val, h0]) (wp_box (cs := zR 6) rfl fun X w1 rX hX k1 => ?_)
  refine ⟨⟨_, by simp only [upd]; rfl⟩, ?_⟩
  have hXl := rX.lt
  have kd := keep_drawn w1
  refine np_draw ?_
  generalize hw0 : ({ w1 with drawn := w1.drawn + 1 } : World) = w2 at kd ⊢
  have r2 := rX.keep kd (by simp)
  have e6 : IntKind.i64.wrap 6 = 6 := rfl
  have kp : ∀ {ζ : Nat → Value} {w' : World} {k : NP} {Q : Post}, ζ 1 = ptr X → ζ 2 = .int .i32 6 → ζ 3 = .int .i64 6 → ζ 4 = .agg (zR 6).toArray → Row w' X (zR 6) → k.wp P Q ζ w' → (kb3 k).wp P Q ζ w' := fun {ζ w' k Q} z1 z2 z3 z4 r hk' => by
    refine np_keep (vs := [ptr X]) (by simp [SV.val, z1, add0]) (wp_loadN r (by simp) ⟨by rw [z4]; rfl, rfl⟩) ?_
    refine np_keep (vs := [.int .i32 6]) (by simp [SV.val, z2]) ⟨.i32, _, rfl, by rw [z3, e6], rfl⟩ ?_
    exact np_keep (vs := [ptr X]) (by simp [SV.val, z1, add0]) (wp_load r rfl ⟨z2.symm, rfl⟩) hk'
  refine np_look (vs := [ptr X]) (by simp [SV.val, upd, add0]) (wp_load r2 rfl ⟨rfl, ?_⟩)
  refine np_look (vs := [.int .i32 6]) (by simp [SV.val, upd]) ⟨.i32, _, rfl, rfl, ?_⟩
  rw [e6]
  refine np_look (vs := [ptr X]) (by simp [SV.val, upd, add0]) (wp_loadN r2 (by simp) ⟨rfl, ?_⟩)
  refine np_op (vs := [.int .i64 ((6 : Nat) : Int)]) (by simp [SV.val, upd]) (gv_call (hV 6 (.inr rfl)) kd.size fun d w3 k3 o3 => ?_)
  have c3 : CS w w1.heap.size X (zR 6) e w3 d [12] := ⟨k1.then (kd.then k3), r2.keep k3 (by simp), o3, hXl, k1.size⟩
  refine kp (by simp [upd]) (by simp [upd]) (by simp [upd]) (by simp [upd]) c3.r ?_
  refine np_op (vs := [.agg (zR 6).toArray]) (by simp [SV.val, upd]) (hR 6 w3 _ fun u w4 k4 o4 => ?_)
  have c4 := c3.keep k4
  refine kp (by simp [upd]) (by simp [upd]) (by simp [upd]) (by simp [upd]) c4.r ?_
  refine np_op (vs := [d, u]) (by simp [SV.val, upd]) (cs_app c4 (own_sl0 o4) (by unfold lim; simp) fun d5 w5 c5 => ?_)
  refine kp (by simp [upd]) (by simp [upd]) (by simp [upd]) (by simp [upd]) c5.r ?_
  show K (pack _) w5
  simpa [pack, SV.val, upd] using hk d5 w5 c5.k (ownW c5.o c5.b)

end
end Go.Ar

/- The package reads what the form writes of nothing. -/
namespace Go.Ar
open Go.Lx Go.Nx Go.Km Go.Mx Go.Kb

set_option linter.unusedSimpArgs false
set_option linter.unusedVariables false

section
variable {P : Program}

/-- A reader under way, the struct that it fills. -/
structure RS (w0 : World) (R V : Nat) (cs : List Value) (bs : Bs) (w : World) : Prop where
  env : Env (fun k => k ≠ V ∧ k ≠ R) w R
  rd : ∃ nn, Rd (fun k => k ≠ V ∧ k ≠ R) w R nn (some bs)
  row : Row w V cs
  keep : Keep [V] w0 w
  rv : R ≠ V
  new : w0.heap.size ≤ R

theorem RS.nV {w0 w : World} {R V : Nat} {cs : List Value} {bs : Bs} (h : RS w0 R V cs bs w) : ¬ (V ≠ V ∧ V ≠ R) := fun hh => hh.1 rfl

def mkR (a : Nat) (k : NP) : NP := .op (.lit [.slice none 0 0, .bool false] [0]) [.s 1] a <| .op (.alloc [.slice none 0 0, .bool false]) [] (a + 1) <| .chk (a + 1) <| .op (.store 2) [.q (a + 1) 0, .s a] (a + 2) k

theorem mkR_ok {a : Nat} {k : NP} {Q : Post} {η : Nat → Value} {w : World} {V : Nat} {cs : List Value} {src : Value} {bs : Bs} (ha : 2 ≤ a) (h1 : η 1 = src) (hr : Row w V cs) (hsl : Sl (fun k => k ≠ V) w src bs)
    (hk : ∀ η' w' R, RS w R V cs bs w' → (∀ i, i < a → η' i = η i) → η' (a + 1) = ptr R → k.wp P Q η' w') : (mkR a k).wp P Q η w := by
  have hs1 : One src := One.sl hsl
  have hVl := hr.lt
  refine np_op (vs := [src]) (by simp [SV.val, h1]) ⟨rfl, fun v hv => by simp at hv; subst hv; exact ⟨by rw [hs1.1]; rfl, hs1.list⟩, ?_⟩
  refine np_op (vs := []) rfl (wp_alloc fun R w1 r1 hR k1 => ?_)
  refine ⟨⟨_, by simp only [upd, if_true]; rfl⟩, ?_⟩
  refine np_op (vs := [ptr R, .agg #[src, .bool false]]) (by simp [SV.val, upd, add0, putAll]) (wp_store r1 (n := 2) ⟨rfl, by have := hs1.2; simp only [Value.cells]; simp [this]; rfl⟩ (by simp) fun w2 r2 k2 => ?_)
  have r2 : Row w2 R [src, .bool false] := r2
  have k02 : Keep [] w w2 := k1.trans k2 fun x hx hlt => by simp at hx; omega
  have hRV : R ≠ V := by omega
  have hRl := r2.lt
  have hsl2 : Sl (fun k => k ≠ V ∧ k ≠ R) w2 src bs := (hsl.weak (ok' := fun k => k ≠ V ∧ k ≠ R) fun b hb hob => ⟨hob, by omega⟩).same (k02.same fun x hx => by cases hx)
  refine hk _ w2 R ⟨⟨fun k hk => ⟨by omega, by omega⟩, fun h => h.2 rfl⟩, ⟨false, src, r2, hsl2, fun h => by cases h⟩, hr.keep k02 (by simp), k02.mono (fun x hx _ => by cases hx), hRV, hR⟩ (fun i hi => by simp only [upd]; rw [if_neg (by omega), if_neg (by omega), if_neg (by omega)]) (by simp [upd])

/-- A read that succeeds. -/
theorem rs_call {f : FuncId} {α : Type} {dec : Bs → Option (α × Bs)} {rep : (Nat → Prop) → World → α → Value → Prop} {zr : Value → Prop} (h : Reads P f dec rep zr) {w0 w : World} {R V : Nat} {cs : List Value} {bs r : Bs} {x : α} {K : Value → World → Prop} (hs : RS w0 R V cs bs w) (hq : dec bs = some (x, r))
    (hk : ∀ v w', RS w0 R V cs r w' → rep (fun k => k ≠ V ∧ k ≠ R) w' x v → Same (fun k => k ≠ V ∧ k ≠ R) w w' → K v w') : In.wp P (.call f) [ptr R] w K := by
  obtain ⟨nn, hrd⟩ := hs.rd
  refine h _ w R nn _ K hs.env hrd fun v w1 k1 hend => ?_
  unfold ReadEnd at hend
  have hb : (some bs).bind dec = some (x, r) := hq
  rw [hb] at hend
  have hn : R ∉ [V] := by simpa using hs.rv
  exact hk v w1 ⟨hs.env.keep k1, ⟨true, hend.1⟩, hs.row.keep k1 (by simpa using hs.rv.symm), hs.keep.trans k1 fun y hy hlt => by simp at hy; have := hs.new; omega, hs.rv, hs.new⟩ hend.2 (hs.env.same k1)

theorem rs_store {w0 w : World} {R V o : Nat} {cs : List Value} {bs : Bs} {v : Value} {K : Value → World → Prop} (hs : RS w0 R V cs bs w) (hv : One v) (ho : o < cs.length) (hk : ∀ w', RS w0 R V (put cs o [v]) bs w' → Same (fun k => k ≠ V ∧ k ≠ R) w w' → K undef w') : In.wp P (.store 1) [.pointer (some ⟨V, o, none⟩), v] w K := by
  refine wp_store hs.row hv.fit (by omega) fun w2 r2 k2 => ?_
  rw [hv.list] at r2
  have hA : ∀ x ∈ [V], ¬ (fun k => k ≠ V ∧ k ≠ R) x := fun x hx => by simp at hx; subst hx; exact fun h => h.1 rfl
  obtain ⟨nn, hrd⟩ := hs.rd
  exact hk w2 ⟨hs.env.keep k2, ⟨nn, hrd.keep k2 (by simpa using hs.rv) hA⟩, r2, hs.keep.then k2, hs.rv, hs.new⟩ (k2.same hA)

def rst (f : FuncId) (p o n : Nat) (k : NP) : NP := .op (.call f) [.q p 0] n <| .op (.store 1) [.q 0 o, .s n] (n + 1) k
def rstc (f : FuncId) (p o n : Nat) (k : NP) : NP := .op (.call f) [.q p 0] n <| .chk 0 <| .op (.store 1) [.q 0 o, .s n] (n + 1) k

section
variable {f : FuncId} {α : Type} {dec : Bs → Option (α × Bs)} {rep : (Nat → Prop) → World → α → Value → Prop} {zr : Value → Prop} {w0 w : World} {R V p o n : Nat} {cs : List Value} {bs r : Bs} {x : α} {k : NP} {Q : Post} {η : Nat → Value}

theorem rst_ok (h : Reads P f dec rep zr) (hsame : ∀ ok w w' x v, rep ok w x v → Same ok w w' → rep ok w' x v) (hone : ∀ ok w x v, rep ok w x v → One v) (hs : RS w0 R V cs bs w) (h0 : η 0 = ptr V) (hp : η p = ptr R) (h0n : 0 < n) (hpn : p < n) (hq : dec bs = some (x, r)) (ho : o < cs.length)
    (hk : ∀ η' w' v, RS w0 R V (put cs o [v]) r w' → (∀ i, i < n → η' i = η i) → rep (fun k => k ≠ V ∧ k ≠ R) w' x v → Same (fun k => k ≠ V ∧ k ≠ R) w w' → k.wp P Q η' w') : (rst f p o n k).wp P Q η w := by
  refine np_op (vs := [ptr R]) (by simp [SV.val, hp, add0]) (rs_call h hs hq fun v w1 hs1 hv hsm => ?_)
  refine np_op (vs := [.pointer (some ⟨V, o, none⟩), v]) (by simp [SV.val, upd, h0, Addr.add, show ¬ 0 = n by omega] <;> omega) (rs_store hs1 (hone _ _ _ _ hv) ho fun w2 hs2 hsm2 => ?_)
  exact hk _ w2 v hs2 (fun i hi => by simp only [upd]; rw [if_neg (by omega), if_neg (by omega)]) (hsame _ _ _ _ _ hv hsm2) (hsm.trans hsm2)

theorem rstc_ok (h : Reads P f dec rep zr) (hsame : ∀ ok w w' x v, rep ok w x v → Same ok w w' → rep ok w' x v) (hone : ∀ ok w x v, rep ok w x v → One v) (hs : RS w0 R V cs bs w) (h0 : η 0 = ptr V) (hp : η p = ptr R) (h0n : 0 < n) (hpn : p < n) (hq : dec bs = some (x, r)) (ho : o < cs.length)
    (hk : ∀ η' w' v, RS w0 R V (put cs o [v]) r w' → (∀ i, i < n → η' i = η i) → rep (fun k => k ≠ V ∧ k ≠ R) w' x v → Same (fun k => k ≠ V ∧ k ≠ R) w w' → k.wp P Q η' w') : (rstc f p o n k).wp P Q η w := by
  refine np_op (vs := [ptr R]) (by simp [SV.val, hp, add0]) (rs_call h hs hq fun v w1 hs1 hv hsm => ?_)
  refine ⟨⟨_, by simp only [upd]; rw [if_neg (by omega)]; exact h0⟩, ?_⟩
  refine np_op (vs := [.pointer (some ⟨V, o, none⟩), v]) (by simp [SV.val, upd, h0, Addr.add, show ¬ 0 = n by omega] <;> omega) (rs_store hs1 (hone _ _ _ _ hv) ho fun w2 hs2 hsm2 => ?_)
  exact hk _ w2 v hs2 (fun i hi => by simp only [upd]; rw [if_neg (by omega), if_neg (by omega)]) (hsame _ _ _ _ _ hv hsm2) (hsm.trans hsm2)

end

/-- A number of the row. -/
theorem rsti_ok {f : FuncId} {kd : IntKind} {dec : Bs → Option (Int × Bs)} {zr : Value → Prop} {w0 w : World} {R V p o n : Nat} {cs : List Value} {bs r : Bs} {x : Int} {k : NP} {Q : Post} {η : Nat → Value} (h : Reads P f dec (intRep kd) zr) (hs : RS w0 R V cs bs w) (h0 : η 0 = ptr V) (hp : η p = ptr R) (h0n : 0 < n) (hpn : p < n) (hq : dec bs = some (x, r)) (ho : o < cs.length)
    (hk : ∀ η' w', RS w0 R V (put cs o [.int kd x]) r w' → (∀ i, i < n → η' i = η i) → Same (fun k => k ≠ V ∧ k ≠ R) w w' → k.wp P Q η' w') : (rst f p o n k).wp P Q η w :=
  rst_ok h (fun _ _ _ _ _ h _ => h) (fun _ _ _ v h => by rw [show v = _ from h]; exact ⟨rfl, rfl⟩) hs h0 hp h0n hpn hq ho fun η' w' v hs' hf hv hsm => by
    have hv : v = .int kd x := hv
    subst hv
    exact hk η' w' hs' hf hsm

theorem rstci_ok {f : FuncId} {kd : IntKind} {dec : Bs → Option (Int × Bs)} {zr : Value → Prop} {w0 w : World} {R V p o n : Nat} {cs : List Value} {bs r : Bs} {x : Int} {k : NP} {Q : Post} {η : Nat → Value} (h : Reads P f dec (intRep kd) zr) (hs : RS w0 R V cs bs w) (h0 : η 0 = ptr V) (hp : η p = ptr R) (h0n : 0 < n) (hpn : p < n) (hq : dec bs = some (x, r)) (ho : o < cs.length)
    (hk : ∀ η' w', RS w0 R V (put cs o [.int kd x]) r w' → (∀ i, i < n → η' i = η i) → Same (fun k => k ≠ V ∧ k ≠ R) w w' → k.wp P Q η' w') : (rstc f p o n k).wp P Q η w :=
  rstc_ok h (fun _ _ _ _ _ h _ => h) (fun _ _ _ v h => by rw [show v = _ from h]; exact ⟨rfl, rfl⟩) hs h0 hp h0n hpn hq ho fun η' w' v hs' hf hv hsm => by
    have hv : v = .int kd x := hv
    subst hv
    exact hk η' w' hs' hf hsm

/-- Octets, or null, that were none. -/
def NbFn (P : Program) (f : FuncId) : Prop := Reads P f (rdP (.nbyt false)) (fun ok w x v => RepP ok w (.nbyt false) x v) (Fit 1)

theorem rstn_ok {f : FuncId} {w0 w : World} {R V p o n : Nat} {cs : List Value} {bs r : Bs} {k : NP} {Q : Post} {η : Nat → Value} (h : NbFn P f) (hs : RS w0 R V cs bs w) (h0 : η 0 = ptr V) (hp : η p = ptr R) (h0n : 0 < n) (hpn : p < n) (hq : rdP (.nbyt false) bs = some (.o (some []), r)) (ho : o < cs.length)
    (hk : ∀ η' w' v, RS w0 R V (put cs o [v]) r w' → (∀ i, i < n → η' i = η i) → ocRep (fun k => k ≠ V ∧ k ≠ R) w' (some []) v → Same (fun k => k ≠ V ∧ k ≠ R) w w' → k.wp P Q η' w') : (rst f p o n k).wp P Q η w := by
  refine np_op (vs := [ptr R]) (by simp [SV.val, hp, add0]) (rs_call h hs hq fun v w1 hs1 hv hsm => ?_)
  have hv : ocRep (fun k => k ≠ V ∧ k ≠ R) w1 (some []) v := hv
  refine np_op (vs := [.pointer (some ⟨V, o, none⟩), v]) (by simp [SV.val, upd, h0, Addr.add, show ¬ 0 = n by omega] <;> omega) (rs_store hs1 (good_oc.one _ _ _ _ hv) ho fun w2 hs2 hsm2 => ?_)
  exact hk _ w2 v hs2 (fun i hi => by simp only [upd]; rw [if_neg (by omega), if_neg (by omega)]) (good_oc.same _ _ _ _ _ hv hsm2) (hsm.trans hsm2)

/-- The reading of a struct of octets that are known. -/
def RfFn (P : Program) (f : FuncId) (g : Nat) (z : List Value) (bs : Bs) (C : (Nat → Prop) → World → List Value → Prop) : Prop :=
  ∀ (w : World) (V : Nat) (src : Value) (K : Value → World → Prop) (err : Value), Row w V z → Sl (fun k => k ≠ V) w src bs → w.cell? ⟨g, 0, none⟩ = some err → g ≠ V →
    (∀ w' cs, Keep [V] w w' → Row w' V cs → C (fun k => k ≠ V) w' cs → K .nilIface w') → In.wp P (.call f) [ptr V, src, .bool false] w K

theorem rs_end {f : FuncId} {g : Nat} (hC : CompleteFn P f g) {w0 w : World} {R V p n : Nat} {cs : List Value} {bs : Bs} {η : Nat → Value} {err : Value} {K : Value → World → Prop} (hs : RS w0 R V cs bs w) (hp : η p = ptr R) (herr : w0.cell? ⟨g, 0, none⟩ = some err) (hg : g ≠ V) (hk : K .nilIface w) :
    (NP.op (.call f) [.q p 0] n <| .ret [.s n]).wp P (postP [.direct] K) η w := by
  obtain ⟨nn, hrd⟩ := hs.rd
  have hgl : g < w0.heap.size := cellLt herr
  have herr' : w.cell? ⟨g, 0, none⟩ = some err := by rw [World.cell?_of_block (w := w0) (w' := w) (hs.keep.block g hgl (by simpa using hg))]; exact herr
  refine np_op (vs := [ptr R]) (by simp [SV.val, hp, add0]) (hC _ w R nn _ _ err hrd herr' ?_)
  show K (pack _) w
  simpa [pack, SV.val, upd] using hk

structure TJ where
  i64 : FuncId
  i32 : FuncId
  i16 : FuncId
  i8 : FuncId
  nb : FuncId
  vs : FuncId
  vb : FuncId
  us : FuncId
  ss : FuncId
  su : FuncId
  sp : FuncId
  al : FuncId
  cm : FuncId

structure TFns (P : Program) (I : TJ) (g : Nat) : Prop where
  i64 : Reads P I.i64 (rdI 8) (intRep .i64) (· = .int .i64 0)
  i32 : Reads P I.i32 (rdI 4) (intRep .i32) (· = .int .i32 0)
  i16 : Reads P I.i16 (rdI 2) (intRep .i16) (· = .int .i16 0)
  i8 : Reads P I.i8 (rdI 1) (intRep .i8) (· = .int .i8 0)
  nb : NbFn P I.nb
  vs : Reads P I.vs rdT strRep (· = .string ⟨([] : Bs).toArray⟩)
  vb : Reads P I.vb rdOc ocRep (· = .slice none 0 0)
  sp : Spans P I.sp
  al : Counts P I.al false
  cm : CompleteFn P I.cm g

/-! Old messages. -/
def p_rfV0 (d : FuncId) (I : TJ) : FnP := ⟨.op (.call d) [.s 0] 3 <|
  mkR 4 <| rstc I.i64 5 0 7 <| rst I.i32 5 1 9 <| rst I.i32 5 2 11 <| rst I.i8 5 3 13 <| rst I.i8 5 4 15 <| rst I.nb 5 5 17 <| rst I.nb 5 6 19 <|
  .op (.call I.cm) [.q 5 0] 21 <| .ret [.s 21], [.direct]⟩

abbrev zV0 : List Value := [.int .i64 0, .int .i32 0, .int .i32 0, .int .i8 0, .int .i8 0, .slice none 0 0, .slice none 0 0]
abbrev zr (n : Nat) : Bs := List.replicate n 0

def C0 (ok : Nat → Prop) (w : World) (cs : List Value) : Prop := ∃ v5 v6, cs = [.int .i64 0, .int .i32 0, .int .i32 0, .int .i8 0, .int .i8 0, v5, v6] ∧ ocRep ok w (some []) v5 ∧ ocRep ok w (some []) v6

theorem rfV0_ok (hn : Named P) {f d : FuncId} {I : TJ} {g : Nat} (F : TFns P I g) (hf : fnP P f 3 = some (p_rfV0 d I)) (hd : DefOk P d) : RfFn P f g zV0 (zr 26) C0 := by
  intro w V src K err hr hsl herr hg hk
  refine calls_of_np hn (vs := [ptr V, src, .bool false]) hf fun η hη => ?_
  have h0 : η 0 = ptr V := hη 0 (by simp)
  have h1 : η 1 = src := hη 1 (by simp)
  refine np_op (vs := [ptr V]) (by simp [SV.val, h0, add0]) (hd _ w _ fun u3 => ?_)
  refine mkR_ok (by omega) (by simp [upd, h1]) hr hsl fun η1 w1 R s1 f1 q1 => ?_
  have a1 : η1 0 = ptr V := by rw [f1 0 (by omega)]; simp [upd, h0]
  have q1 : η1 5 = ptr R := q1
  refine rstci_ok F.i64 s1 a1 q1 (by omega) (by omega) (x := 0) (r := zr 18) (by kernel_rfl) (by simp) fun η2 w2 s2 f2 m2 => ?_
  have a2 : η2 0 = ptr V := by rw [f2 0 (by omega)]; exact a1
  have q2 : η2 5 = ptr R := by rw [f2 5 (by omega)]; exact q1
  refine rsti_ok F.i32 s2 a2 q2 (by omega) (by omega) (x := 0) (r := zr 14) (by kernel_rfl) (by simp [put]) fun η3 w3 s3 f3 m3 => ?_
  have a3 : η3 0 = ptr V := by rw [f3 0 (by omega)]; exact a2
  have q3 : η3 5 = ptr R := by rw [f3 5 (by omega)]; exact q2
  refine rsti_ok F.i32 s3 a3 q3 (by omega) (by omega) (x := 0) (r := zr 10) (by kernel_rfl) (by simp [put]) fun η4 w4 s4 f4 m4 => ?_
  have a4 : η4 0 = ptr V := by rw [f4 0 (by omega)]; exact a3
  have q4 : η4 5 = ptr R := by rw [f4 5 (by omega)]; exact q3
  refine rsti_ok F.i8 s4 a4 q4 (by omega) (by omega) (x := 0) (r := zr 9) (by kernel_rfl) (by simp [put]) fun η5 w5 s5 f5 m5 => ?_
  have a5 : η5 0 = ptr V := by rw [f5 0 (by omega)]; exact a4
  have q5 : η5 5 = ptr R := by rw [f5 5 (by omega)]; exact q4
  refine rsti_ok F.i8 s5 a5 q5 (by omega) (by omega) (x := 0) (r := zr 8) (by kernel_rfl) (by simp [put]) fun η6 w6 s6 f6 m6 => ?_
  have a6 : η6 0 = ptr V := by rw [f6 0 (by omega)]; exact a5
  have q6 : η6 5 = ptr R := by rw [f6 5 (by omega)]; exact q5
  refine rstn_ok F.nb s6 a6 q6 (by omega) (by omega) (r := zr 4) (by kernel_rfl) (by simp [put]) fun η7 w7 v5 s7 f7 o5 m7 => ?_
  have a7 : η7 0 = ptr V := by rw [f7 0 (by omega)]; exact a6
  have q7 : η7 5 = ptr R := by rw [f7 5 (by omega)]; exact q6
  refine rstn_ok F.nb s7 a7 q7 (by omega) (by omega) (r := []) (by kernel_rfl) (by simp [put]) fun η8 w8 v6 s8 f8 o6 m8 => ?_
  have q8 : η8 5 = ptr R := by rw [f8 5 (by omega)]; exact q7
  exact rs_end F.cm s8 q8 herr hg (hk w8 _ s8.keep s8.row ⟨v5, v6, rfl, (good_oc.same _ _ _ _ _ o5 m8).weak fun b _ hb => hb.1, o6.weak fun b _ hb => hb.1⟩)

def p_rfV1 (d : FuncId) (I : TJ) : FnP := ⟨.op (.call d) [.s 0] 3 <|
  mkR 4 <| rstc I.i64 5 0 7 <| rst I.i32 5 1 9 <| rst I.i32 5 2 11 <| rst I.i8 5 3 13 <| rst I.i8 5 4 15 <| rst I.i64 5 5 17 <| rst I.nb 5 6 19 <| rst I.nb 5 7 21 <|
  .op (.call I.cm) [.q 5 0] 23 <| .ret [.s 23], [.direct]⟩

abbrev zV1 : List Value := [.int .i64 0, .int .i32 0, .int .i32 0, .int .i8 0, .int .i8 0, .int .i64 0, .slice none 0 0, .slice none 0 0]

def C1 (ok : Nat → Prop) (w : World) (cs : List Value) : Prop := ∃ v6 v7, cs = [.int .i64 0, .int .i32 0, .int .i32 0, .int .i8 0, .int .i8 0, .int .i64 0, v6, v7] ∧ ocRep ok w (some []) v6 ∧ ocRep ok w (some []) v7

theorem rfV1_ok (hn : Named P) {f d : FuncId} {I : TJ} {g : Nat} (F : TFns P I g) (hf : fnP P f 3 = some (p_rfV1 d I)) (hd : DefOk P d) : RfFn P f g zV1 (zr 34) C1 := by
  intro w V src K err hr hsl herr hg hk
  refine calls_of_np hn (vs := [ptr V, src, .bool false]) hf fun η hη => ?_
  have h0 : η 0 = ptr V := hη 0 (by simp)
  have h1 : η 1 = src := hη 1 (by simp)
  refine np_op (vs := [ptr V]) (by simp [SV.val, h0, add0]) (hd _ w _ fun u3 => ?_)
  refine mkR_ok (by omega) (by simp [upd, h1]) hr hsl fun η1 w1 R s1 f1 q1 => ?_
  have a1 : η1 0 = ptr V := by rw [f1 0 (by omega)]; simp [upd, h0]
  have q1 : η1 5 = ptr R := q1
  refine rstci_ok F.i64 s1 a1 q1 (by omega) (by omega) (x := 0) (r := zr 26) (by kernel_rfl) (by simp) fun η2 w2 s2 f2 m2 => ?_
  have a2 : η2 0 = ptr V := by rw [f2 0 (by omega)]; exact a1
  have q2 : η2 5 = ptr R := by rw [f2 5 (by omega)]; exact q1
  refine rsti_ok F.i32 s2 a2 q2 (by omega) (by omega) (x := 0) (r := zr 22) (by kernel_rfl) (by simp [put]) fun η3 w3 s3 f3 m3 => ?_
  have a3 : η3 0 = ptr V := by rw [f3 0 (by omega)]; exact a2
  have q3 : η3 5 = ptr R := by rw [f3 5 (by omega)]; exact q2
  refine rsti_ok F.i32 s3 a3 q3 (by omega) (by omega) (x := 0) (r := zr 18) (by kernel_rfl) (by simp [put]) fun η4 w4 s4 f4 m4 => ?_
  have a4 : η4 0 = ptr V := by rw [f4 0 (by omega)]; exact a3
  have q4 : η4 5 = ptr R := by rw [f4 5 (by omega)]; exact q3
  refine rsti_ok F.i8 s4 a4 q4 (by omega) (by omega) (x := 0) (r := zr 17) (by kernel_rfl) (by simp [put]) fun η5 w5 s5 f5 m5 => ?_
  have a5 : η5 0 = ptr V := by rw [f5 0 (by omega)]; exact a4
  have q5 : η5 5 = ptr R := by rw [f5 5 (by omega)]; exact q4
  refine rsti_ok F.i8 s5 a5 q5 (by omega) (by omega) (x := 0) (r := zr 16) (by kernel_rfl) (by simp [put]) fun η6 w6 s6 f6 m6 => ?_
  have a6 : η6 0 = ptr V := by rw [f6 0 (by omega)]; exact a5
  have q6 : η6 5 = ptr R := by rw [f6 5 (by omega)]; exact q5
  refine rsti_ok F.i64 s6 a6 q6 (by omega) (by omega) (x := 0) (r := zr 8) (by kernel_rfl) (by simp [put]) fun η7 w7 s7 f7 m7 => ?_
  have a7 : η7 0 = ptr V := by rw [f7 0 (by omega)]; exact a6
  have q7 : η7 5 = ptr R := by rw [f7 5 (by omega)]; exact q6
  refine rstn_ok F.nb s7 a7 q7 (by omega) (by omega) (r := zr 4) (by kernel_rfl) (by simp [put]) fun η8 w8 v6 s8 f8 o6 m8 => ?_
  have a8 : η8 0 = ptr V := by rw [f8 0 (by omega)]; exact a7
  have q8 : η8 5 = ptr R := by rw [f8 5 (by omega)]; exact q7
  refine rstn_ok F.nb s8 a8 q8 (by omega) (by omega) (r := []) (by kernel_rfl) (by simp [put]) fun η9 w9 v7 s9 f9 o7 m9 => ?_
  have q9 : η9 5 = ptr R := by rw [f9 5 (by omega)]; exact q8
  exact rs_end F.cm s9 q9 herr hg (hk w9 _ s9.keep s9.row ⟨v6, v7, rfl, (good_oc.same _ _ _ _ _ o6 m9).weak fun b _ hb => hb.1, o7.weak fun b _ hb => hb.1⟩)

/-! Headers. -/
def p_rfH (d : FuncId) (I : TJ) : FnP := ⟨.op (.call d) [.s 0] 3 <|
  mkR 4 <| .ite (.s 2)
    (.op (.call I.us) [.q 5 0] 7 <|
    .set 9 (.s 7) <|
    .set 10 (.s 7) <|
    .nil)
    (.op (.call I.vs) [.q 5 0] 8 <|
    .set 9 (.s 8) <|
    .set 10 (.s 8) <|
    .nil) <|
  .chk 0 <|
  .op (.store 1) [.q 0 0, .s 10] 11 <|
  rst I.vb 5 1 12 <|
  .op (.call I.cm) [.q 5 0] 14 <|
  .ret [.s 14], [.direct]⟩

def CH (ok : Nat → Prop) (w : World) (cs : List Value) : Prop := ∃ v1, cs = [.string ⟨([] : Bs).toArray⟩, v1] ∧ ocRep ok w (some []) v1

theorem rfH_ok (hn : Named P) {f d : FuncId} {I : TJ} {g : Nat} (F : TFns P I g) (hf : fnP P f 3 = some (p_rfH d I)) (hd : DefOk P d) : RfFn P f g [.string ByteArray.empty, .slice none 0 0] [0, 0] CH := by
  intro w V src K err hr hsl herr hg hk
  refine calls_of_np hn (vs := [ptr V, src, .bool false]) hf fun η hη => ?_
  have h0 : η 0 = ptr V := hη 0 (by simp)
  have h1 : η 1 = src := hη 1 (by simp)
  have h2 : η 2 = .bool false := hη 2 (by simp)
  refine np_op (vs := [ptr V]) (by simp [SV.val, h0, add0]) (hd _ w _ fun u3 => ?_)
  refine mkR_ok (by omega) (by simp [upd, h1]) hr hsl fun η1 w1 R s1 f1 q1 => ?_
  have a1 : η1 0 = ptr V := by rw [f1 0 (by omega)]; simp [upd, h0]
  have b1 : η1 2 = .bool false := by rw [f1 2 (by omega)]; simp [upd, h2]
  have q1 : η1 5 = ptr R := q1
  refine iF (by simp [SV.val, b1]) ?_
  refine np_op (vs := [ptr R]) (by simp [SV.val, q1, add0]) (rs_call F.vs s1 (x := []) (r := [0]) (by kernel_rfl) fun v w2 s2 hv m2 => ?_)
  have hv : v = .string ⟨([] : Bs).toArray⟩ := hv
  subst hv
  refine ⟨⟨⟨V, 0, none⟩, by simp [upd, a1]⟩, ?_⟩
  refine np_op (vs := [ptr V, .string ⟨([] : Bs).toArray⟩]) (by simp [SV.val, upd, a1, add0]) (rs_store s2 ⟨rfl, rfl⟩ (by simp) fun w3 s3 m3 => ?_)
  refine rst_ok F.vb (fun ok w w' x v h k => good_oc.same ok w w' x v h k) (fun ok w x v h => good_oc.one ok w x v h) s3 (by simp [upd, a1]) (by simp [upd, q1]) (by omega) (by omega) (x := some []) (r := []) (by kernel_rfl) (by simp [put]) fun η4 w4 v1 s4 f4 o4 m4 => ?_
  have q4 : η4 5 = ptr R := by rw [f4 5 (by omega)]; simp [upd, q1]
  exact rs_end F.cm s4 q4 herr hg (hk w4 _ s4.keep s4.row ⟨v1, rfl, o4.weak fun b _ hb => hb.1⟩)

/-! Batches. -/
def p_rfB (d : FuncId) (I : TJ) : FnP := ⟨.op (.call d) [.s 0] 3 <|
  mkR 4 <| rstc I.i64 5 0 7 <| rst I.i32 5 1 9 <| rst I.i32 5 2 11 <| rst I.i8 5 3 13 <| rst I.i32 5 4 15 <| rst I.i16 5 5 17 <| rst I.i32 5 6 19 <| rst I.i64 5 7 21 <| rst I.i64 5 8 23 <| rst I.i64 5 9 25 <| rst I.i16 5 10 27 <| rst I.i32 5 11 29 <| rst I.i32 5 12 31 <|
  .op .load [.q 0 1] 33 <|
  .op (.cv .i64) [.s 33] 34 <|
  .op (.bin .sub) [.s 34, .k (.int .i64 49)] 35 <|
  .op (.call I.sp) [.q 5 0, .s 35] 36 <|
  .op (.store 1) [.q 0 13, .s 36] 37 <|
  .op (.call I.cm) [.q 5 0] 38 <|
  .ret [.s 38], [.direct]⟩

def CB (ok : Nat → Prop) (w : World) (cs : List Value) : Prop := ∃ v, cs = [.int .i64 0, .int .i32 49, .int .i32 0, .int .i8 0, .int .i32 0, .int .i16 0, .int .i32 0, .int .i64 0, .int .i64 0, .int .i64 0, .int .i16 0, .int .i32 0, .int .i32 0, v] ∧ Sl ok w v []

theorem rfB_ok (hn : Named P) {f d : FuncId} {I : TJ} {g : Nat} (F : TFns P I g) (hf : fnP P f 3 = some (p_rfB d I)) (hd : DefOk P d) : RfFn P f g (zB 0) bBatch CB := by
  intro w V src K err hr hsl herr hg hk
  refine calls_of_np hn (vs := [ptr V, src, .bool false]) hf fun η hη => ?_
  have h0 : η 0 = ptr V := hη 0 (by simp)
  have h1 : η 1 = src := hη 1 (by simp)
  refine np_op (vs := [ptr V]) (by simp [SV.val, h0, add0]) (hd _ w _ fun u3 => ?_)
  refine mkR_ok (by omega) (by simp [upd, h1]) hr hsl fun η1 w1 R s1 f1 q1 => ?_
  have a1 : η1 0 = ptr V := by rw [f1 0 (by omega)]; simp [upd, h0]
  have q1 : η1 5 = ptr R := q1
  refine rstci_ok F.i64 s1 a1 q1 (by omega) (by omega) (x := 0) (r := [0, 0, 0, 49] ++ zr 49) (by kernel_rfl) (by simp) fun η2 w2 s2 f2 m2 => ?_
  have a2 : η2 0 = ptr V := by rw [f2 0 (by omega)]; exact a1
  have q2 : η2 5 = ptr R := by rw [f2 5 (by omega)]; exact q1
  refine rsti_ok F.i32 s2 a2 q2 (by omega) (by omega) (x := 49) (r := zr 49) (by kernel_rfl) (by simp [put]) fun η3 w3 s3 f3 m3 => ?_
  have a3 : η3 0 = ptr V := by rw [f3 0 (by omega)]; exact a2
  have q3 : η3 5 = ptr R := by rw [f3 5 (by omega)]; exact q2
  refine rsti_ok F.i32 s3 a3 q3 (by omega) (by omega) (x := 0) (r := zr 45) (by kernel_rfl) (by simp [put]) fun η4 w4 s4 f4 m4 => ?_
  have a4 : η4 0 = ptr V := by rw [f4 0 (by omega)]; exact a3
  have q4 : η4 5 = ptr R := by rw [f4 5 (by omega)]; exact q3
  refine rsti_ok F.i8 s4 a4 q4 (by omega) (by omega) (x := 0) (r := zr 44) (by kernel_rfl) (by simp [put]) fun η5 w5 s5 f5 m5 => ?_
  have a5 : η5 0 = ptr V := by rw [f5 0 (by omega)]; exact a4
  have q5 : η5 5 = ptr R := by rw [f5 5 (by omega)]; exact q4
  refine rsti_ok F.i32 s5 a5 q5 (by omega) (by omega) (x := 0) (r := zr 40) (by kernel_rfl) (by simp [put]) fun η6 w6 s6 f6 m6 => ?_
  have a6 : η6 0 = ptr V := by rw [f6 0 (by omega)]; exact a5
  have q6 : η6 5 = ptr R := by rw [f6 5 (by omega)]; exact q5
  refine rsti_ok F.i16 s6 a6 q6 (by omega) (by omega) (x := 0) (r := zr 38) (by kernel_rfl) (by simp [put]) fun η7 w7 s7 f7 m7 => ?_
  have a7 : η7 0 = ptr V := by rw [f7 0 (by omega)]; exact a6
  have q7 : η7 5 = ptr R := by rw [f7 5 (by omega)]; exact q6
  refine rsti_ok F.i32 s7 a7 q7 (by omega) (by omega) (x := 0) (r := zr 34) (by kernel_rfl) (by simp [put]) fun η8 w8 s8 f8 m8 => ?_
  have a8 : η8 0 = ptr V := by rw [f8 0 (by omega)]; exact a7
  have q8 : η8 5 = ptr R := by rw [f8 5 (by omega)]; exact q7
  refine rsti_ok F.i64 s8 a8 q8 (by omega) (by omega) (x := 0) (r := zr 26) (by kernel_rfl) (by simp [put]) fun η9 w9 s9 f9 m9 => ?_
  have a9 : η9 0 = ptr V := by rw [f9 0 (by omega)]; exact a8
  have q9 : η9 5 = ptr R := by rw [f9 5 (by omega)]; exact q8
  refine rsti_ok F.i64 s9 a9 q9 (by omega) (by omega) (x := 0) (r := zr 18) (by kernel_rfl) (by simp [put]) fun η10 w10 s10 f10 m10 => ?_
  have a10 : η10 0 = ptr V := by rw [f10 0 (by omega)]; exact a9
  have q10 : η10 5 = ptr R := by rw [f10 5 (by omega)]; exact q9
  refine rsti_ok F.i64 s10 a10 q10 (by omega) (by omega) (x := 0) (r := zr 10) (by kernel_rfl) (by simp [put]) fun η11 w11 s11 f11 m11 => ?_
  have a11 : η11 0 = ptr V := by rw [f11 0 (by omega)]; exact a10
  have q11 : η11 5 = ptr R := by rw [f11 5 (by omega)]; exact q10
  refine rsti_ok F.i16 s11 a11 q11 (by omega) (by omega) (x := 0) (r := zr 8) (by kernel_rfl) (by simp [put]) fun η12 w12 s12 f12 m12 => ?_
  have a12 : η12 0 = ptr V := by rw [f12 0 (by omega)]; exact a11
  have q12 : η12 5 = ptr R := by rw [f12 5 (by omega)]; exact q11
  refine rsti_ok F.i32 s12 a12 q12 (by omega) (by omega) (x := 0) (r := zr 4) (by kernel_rfl) (by simp [put]) fun η13 w13 s13 f13 m13 => ?_
  have a13 : η13 0 = ptr V := by rw [f13 0 (by omega)]; exact a12
  have q13 : η13 5 = ptr R := by rw [f13 5 (by omega)]; exact q12
  refine rsti_ok F.i32 s13 a13 q13 (by omega) (by omega) (x := 0) (r := []) (by kernel_rfl) (by simp [put]) fun η14 w14 s14 f14 m14 => ?_
  have a14 : η14 0 = ptr V := by rw [f14 0 (by omega)]; exact a13
  have q14 : η14 5 = ptr R := by rw [f14 5 (by omega)]; exact q13
  refine np_op (vs := [.pointer (some ⟨V, 1, none⟩)]) (by simp [SV.val, a14, Addr.add]) (wp_load s14.row rfl ?_)
  refine np_op (vs := [.int .i32 49]) (by simp [SV.val, upd]) ⟨.i32, _, rfl, ?_⟩
  have e49 : IntKind.i64.wrap 49 = 49 := rfl
  rw [e49]
  refine np_op (vs := [.int .i64 49, .int .i64 49]) (by simp [SV.val, upd]) ⟨.i64, _, _, _, rfl, rfl, ?_⟩
  have e0 : IntKind.i64.wrap (49 - 49) = 0 := rfl
  rw [e0]
  obtain ⟨nn, hrd⟩ := s14.rd
  refine np_op (vs := [ptr R, .int .i64 0]) (by simp [SV.val, upd, q14, add0]) (F.sp _ w14 R nn _ 0 _ s14.env hrd fun v w15 k15 hend => ?_)
  unfold SpanEnd at hend
  have hb : (some ([] : Bs)).bind (rdSpan 0) = some ([], []) := rfl
  rw [hb] at hend
  have s15 : RS w R V _ [] w15 := ⟨s14.env.keep k15, ⟨nn, hend.1⟩, s14.row.keep k15 (by simpa using s14.rv.symm), s14.keep.trans k15 fun y hy hlt => by simp at hy; have := s14.new; omega, s14.rv, s14.new⟩
  have hv1 : One v := One.sl hend.2.1
  refine np_op (vs := [.pointer (some ⟨V, 13, none⟩), v]) (by simp [SV.val, upd, a14, Addr.add]) (rs_store s15 hv1 (by simp [put]) fun w16 s16 m16 => ?_)
  exact rs_end F.cm s16 (by simp [upd, q14]) herr hg (hk w16 _ s16.keep s16.row ⟨v, rfl, (hend.2.1.same m16).weak fun b _ hb => hb.1⟩)

/-! Members. -/
def skLoop (I : TJ) : NP := .op (.bin .lss) [.s 23, .s 8] 24 <|
    .ite (.s 24)
      (.nil)
      (.exit) <|
    .ite (.s 2)
      (.op (.call I.su) [.q 4 0] 25 <|
      .set 27 (.s 25) <|
      .set 28 (.s 25) <|
      .nil)
      (.op (.call I.ss) [.q 4 0] 26 <|
      .set 27 (.s 26) <|
      .set 28 (.s 26) <|
      .nil) <|
    .op (.call I.al) [.q 4 0] 29 <|
    .op (.bin .lss) [.s 29, .k (.int .i32 0)] 30 <|
    .ite (.s 30)
      (.set 31 (.k (.int .i32 0)) <|
      .nil)
      (.set 31 (.s 29) <|
      .nil) <|
    .op .load [.q 0 0] 32 <|
    .op (.ia 2) [.s 32, .s 23] 33 <|
    .chk 33 <|
    .op (.store 1) [.q 33 0, .s 28] 34 <|
    .op .load [.q 33 1] 35 <|
    .op .cap [.s 35] 36 <|
    .op (.cv .i32) [.s 36] 37 <|
    .op (.bin .sub) [.s 31, .s 37] 38 <|
    .op (.bin .gtr) [.s 38, .k (.int .i32 0)] 39 <|
    .ite (.s 39)
      (.draw <|
      .look .load [.q 33 1] 40 <|
      .look .load [.q 33 1] 41 <|
      .op .cap [.s 41] 42 <|
      .keep .load [.q 33 1] 41 <|
      .keep .load [.q 33 1] 40 <|
      .look (.sl 1 false true false) [.s 40, .s 42] 43 <|
      .op (.appZ [.int .i32 0]) [.s 43, .s 38] 44 <|
      .keep (.sl 1 false true false) [.s 40, .s 42] 43 <|
      .keep .load [.q 33 1] 41 <|
      .keep .load [.q 33 1] 40 <|
      .op (.store 1) [.q 33 1, .s 44] 45 <|
      .nil)
      (.op .load [.q 33 1] 46 <|
      .op (.sl 1 false true false) [.s 46, .s 31] 47 <|
      .op (.store 1) [.q 33 1, .s 47] 48 <|
      .nil) <|
    .op .load [.q 33 1] 49 <|
    .op .len [.s 49] 50 <|
    .set 51 (.k (.int .i64 0)) <|
    .loop
      (.op (.bin .lss) [.s 51, .s 50] 52 <|
      .ite (.s 52)
        (.nil)
        (.exit) <|
      .draw <|
      .look .load [.q 33 1] 53 <|
      .op (.call I.i32) [.q 4 0] 54 <|
      .keep .load [.q 33 1] 53 <|
      .look (.ia 1) [.s 53, .s 51] 55 <|
      .chk 55 <|
      .op (.store 1) [.q 55 0, .s 54] 56 <|
      .op (.bin .add) [.s 51, .k (.int .i64 1)] 57 <|
      .set 58 (.s 57) <|
      .set 51 (.s 58) <|
      .nil) <|
    .op (.bin .add) [.s 23, .k (.int .i32 1)] 59 <|
    .set 60 (.s 59) <|
    .set 23 (.s 60) <|
    .nil

def p_rfS (I : TJ) : FnP := ⟨mkR 3 <|
  .op (.call I.al) [.q 4 0] 6 <|
  .op (.bin .lss) [.s 6, .k (.int .i32 0)] 7 <|
  .ite (.s 7)
    (.set 8 (.k (.int .i32 0)) <|
    .nil)
    (.set 8 (.s 6) <|
    .nil) <|
  .chk 0 <|
  .op .load [.q 0 0] 9 <|
  .op .cap [.s 9] 10 <|
  .op (.cv .i32) [.s 10] 11 <|
  .op (.bin .sub) [.s 8, .s 11] 12 <|
  .op (.bin .gtr) [.s 12, .k (.int .i32 0)] 13 <|
  .ite (.s 13)
    (.draw <|
    .look .load [.q 0 0] 14 <|
    .look .load [.q 0 0] 15 <|
    .op .cap [.s 15] 16 <|
    .keep .load [.q 0 0] 15 <|
    .keep .load [.q 0 0] 14 <|
    .look (.sl 2 false true false) [.s 14, .s 16] 17 <|
    .op (.appZ [.string ByteArray.empty, .slice none 0 0]) [.s 17, .s 12] 18 <|
    .keep (.sl 2 false true false) [.s 14, .s 16] 17 <|
    .keep .load [.q 0 0] 15 <|
    .keep .load [.q 0 0] 14 <|
    .op (.store 1) [.q 0 0, .s 18] 19 <|
    .nil)
    (.op .load [.q 0 0] 20 <|
    .op (.sl 2 false true false) [.s 20, .s 8] 21 <|
    .op (.store 1) [.q 0 0, .s 21] 22 <|
    .nil) <|
  .set 23 (.k (.int .i32 0)) <|
  .loop (skLoop I) <|
  .op .load [.q 4 0] 61 <|
  .op .len [.s 61] 62 <|
  .op (.bin .gtr) [.s 62, .k (.int .i64 0)] 63 <|
  .ite (.s 63)
    (.op (.call I.i32) [.q 4 0] 64 <|
    .op (.store 1) [.q 0 1, .s 64] 65 <|
    .nil)
    (.op (.store 1) [.q 0 1, .k (.int .i32 (-1))] 66 <|
    .nil) <|
  .op (.call I.cm) [.q 4 0] 67 <|
  .ret [.s 67], [.direct]⟩

def CK (_ : Nat → Prop) (_ : World) (cs : List Value) : Prop := cs = [.slice none 0 0, .int .i32 0]

theorem rfS_ok (hn : Named P) {f : FuncId} {I : TJ} {g : Nat} (F : TFns P I g) (hf : fnP P f 3 = some (p_rfS I)) : RfFn P f g [.slice none 0 0, .int .i32 0] (zr 8) CK := by
  intro w V src K err hr hsl herr hg hk
  refine calls_of_np hn (vs := [ptr V, src, .bool false]) hf fun η hη => ?_
  have h0 : η 0 = ptr V := hη 0 (by simp)
  have h1 : η 1 = src := hη 1 (by simp)
  refine mkR_ok (by omega) h1 hr hsl fun η1 w1 R s1 f1 q1 => ?_
  have a1 : η1 0 = ptr V := by rw [f1 0 (by omega)]; exact h0
  have q1 : η1 4 = ptr R := q1
  obtain ⟨nn, hrd⟩ := s1.rd
  refine np_op (vs := [ptr R]) (by simp [SV.val, q1, add0]) (F.al _ w1 R nn _ _ s1.env hrd fun v w2 k2 hend => ?_)
  unfold CountEnd at hend
  have hb : (some (zr 8)).bind (rdCount false) = some (0, zr 4) := by kernel_rfl
  rw [hb] at hend
  obtain ⟨hrd2, rfl⟩ := hend
  have s2 : RS w R V _ (zr 4) w2 := ⟨s1.env.keep k2, ⟨true, hrd2⟩, s1.row.keep k2 (by simpa using s1.rv.symm), s1.keep.trans k2 fun y hy hlt => by simp at hy; have := s1.new; omega, s1.rv, s1.new⟩
  refine np_op (vs := [.int .i32 0, .int .i32 0]) (by simp [SV.val, upd]) ⟨.i32, _, _, _, rfl, rfl, ?_⟩
  refine iF (by simp [SV.val, upd]) ?_
  refine ⟨⟨⟨V, 0, none⟩, by simp [upd, a1]⟩, ?_⟩
  refine np_op (vs := [ptr V]) (by simp [SV.val, upd, a1, add0]) (wp_load s2.row rfl ?_)
  refine np_op (vs := [.slice none 0 0]) (by simp [SV.val, upd]) ⟨_, _, _, rfl, ?_⟩
  refine np_op (vs := [.int .i64 0]) (by simp [SV.val, upd, goInt]) ⟨.i64, _, rfl, ?_⟩
  have e0 : IntKind.i32.wrap 0 = 0 := rfl
  rw [e0]
  refine np_op (vs := [.int .i32 0, .int .i32 0]) (by simp [SV.val, upd]) ⟨.i32, _, _, _, rfl, rfl, ?_⟩
  have e00 : IntKind.i32.wrap (0 - 0) = 0 := rfl
  rw [e00]
  refine np_op (vs := [.int .i32 0, .int .i32 0]) (by simp [SV.val, upd]) ⟨.i32, _, _, _, rfl, rfl, ?_⟩
  refine iF (by simp [SV.val, upd]) ?_
  refine np_op (vs := [ptr V]) (by simp [SV.val, upd, a1, add0]) (wp_load s2.row rfl ?_)
  refine np_op (vs := [.slice none 0 0, .int .i32 ((0 : Nat) : Int)]) (by simp [SV.val, upd]) ⟨none, 0, 0, [.int .i32 ((0 : Nat) : Int)], rfl, ?_⟩
  simp only [bnd, if_true, Bool.false_eq_true, if_false]
  refine ⟨.i32, 0, [], rfl, rfl, Nat.le_refl _, Nat.le_refl _, Nat.le_refl _, ?_⟩
  refine np_op (vs := [ptr V, .slice none 0 0]) (by simp [SV.val, upd, a1, add0]) (rs_store s2 ⟨rfl, rfl⟩ (by simp) fun w3 s3 m3 => ?_)
  have s3 : RS w R V [.slice none 0 0, .int .i32 0] (zr 4) w3 := s3
  refine lp (fun m η' w' => w' = w3 ∧ η' 0 = ptr V ∧ η' 4 = ptr R ∧ η' 8 = .int .i32 0 ∧ η' 23 = .int .i32 0) 0 ⟨rfl, by simp [upd, a1], by simp [upd, q1], by simp [upd, SV.val], by simp [upd, SV.val]⟩ ?_
  rintro m η' w' ⟨rfl, z0, z4, z8, z23⟩
  refine np_op (vs := [.int .i32 0, .int .i32 0]) (by simp [SV.val, z8, z23]) ⟨.i32, _, _, _, rfl, rfl, ?_⟩
  refine iF (by simp [SV.val, upd]) ?_
  obtain ⟨nn3, vsrc, hrow3, hsl3, _⟩ := s3.rd
  obtain ⟨aa, cc, hsv, _⟩ := sl_slice hsl3
  refine np_op (vs := [ptr R]) (by simp [SV.val, upd, z4, add0]) (wp_load hrow3 rfl ?_)
  refine np_op (vs := [vsrc]) (by simp [SV.val, upd]) ⟨aa, _, cc, by rw [hsv], ?_⟩
  refine np_op (vs := [.int .i64 4, .int .i64 0]) (by simp [SV.val, upd, goInt]) ⟨.i64, _, _, _, rfl, rfl, ?_⟩
  refine iT (by simp [SV.val, upd]) ?_
  refine rsti_ok (n := 64) F.i32 s3 (by simp [upd, z0]) (by simp [upd, z4]) (by omega) (by omega) (x := 0) (r := []) (by kernel_rfl) (by simp) fun η4 w4 s4 f4 m4 => ?_
  have q4 : η4 4 = ptr R := by rw [f4 4 (by omega)]; simp [upd, z4]
  exact rs_end F.cm s4 q4 herr hg (hk w4 _ s4.keep s4.row rfl)

end
end Go.Ar

/- The thin package tells what the form writes of nothing. -/
namespace Go.Ar
open Go.Lx Go.Nx Go.Km Go.Mx Go.Kb

set_option linter.unusedSimpArgs false
set_option linter.unusedVariables false

section
variable {P : Program}

/-! Looks, and that they stand. -/
def lkL (z : Nat) : List (Nat × Nat) → NP → NP
  | [], k => k
  | (o, n) :: r, k => .look .load [.q z o] n (lkL z r k)
def kpL (z : Nat) : List (Nat × Nat) → NP → NP
  | [], k => k
  | (o, n) :: r, k => .keep .load [.q z o] n (kpL z r k)

def LK (l : List (Nat × Nat)) (cs : List Value) (η : Nat → Value) : Prop := ∀ p ∈ l, cs[p.1]? = some (η p.2)

theorem LK.upd {l : List (Nat × Nat)} {cs : List Value} {η : Nat → Value} (h : LK l cs η) {n : Nat} (hn : n ∉ l.map (·.2)) (v : Value) : LK l cs (Lx.upd η n v) := fun p hp => by
  have : p.2 ≠ n := fun e => hn (e ▸ List.mem_map_of_mem hp)
  simp only [Lx.upd, if_neg this]
  exact h p hp
theorem LK.rev {l : List (Nat × Nat)} {cs : List Value} {η : Nat → Value} (h : LK l cs η) : LK l.reverse cs η := fun p hp => h p (List.mem_reverse.1 hp)

theorem kpL_ok {z V : Nat} {cs : List Value} {w : World} {k : NP} {Q : Post} {η : Nat → Value} (hz : η z = ptr V) (hr : Row w V cs) : ∀ {l : List (Nat × Nat)}, LK l cs η → k.wp P Q η w → (kpL z l k).wp P Q η w := by
  intro l
  induction l with
  | nil => intro _ hk; exact hk
  | cons p r ih =>
    intro h hk
    obtain ⟨o, n⟩ := p
    exact np_keep (vs := [.pointer (some ⟨V, o, none⟩)]) (by simp [SV.val, hz, Addr.add] <;> omega) (wp_load hr (h (o, n) (by simp)) ⟨rfl, rfl⟩) (ih (fun p hp => h p (List.mem_cons_of_mem _ hp)) hk)

theorem lkL_ok {z V : Nat} {cs : List Value} {w : World} {k : NP} {Q : Post} (hr : Row w V cs) : ∀ {l : List (Nat × Nat)} {η : Nat → Value}, η z = ptr V → (l.all fun p => decide (p.1 < cs.length) && decide (z < p.2)) = true → (l.map (·.2)).Nodup →
    (∀ η', LK l cs η' → (∀ i, i ∉ l.map (·.2) → η' i = η i) → k.wp P Q η' w) → (lkL z l k).wp P Q η w := by
  intro l
  induction l with
  | nil => intro η _ _ _ hk; exact hk η (fun p hp => by cases hp) fun _ _ => rfl
  | cons p r ih =>
    intro η hz hl hnd hk
    obtain ⟨o, n⟩ := p
    simp only [List.all_cons, Bool.and_eq_true, decide_eq_true_eq] at hl
    obtain ⟨⟨ho, hzn⟩, hl⟩ := hl
    simp only [List.map_cons, List.nodup_cons] at hnd
    refine np_look (vs := [.pointer (some ⟨V, o, none⟩)]) (by simp [SV.val, hz, Addr.add] <;> omega) (wp_load hr (List.getElem?_eq_getElem ho) ⟨rfl, ?_⟩)
    refine ih (by simp only [upd]; rw [if_neg (by omega)]; exact hz) hl hnd.2 fun η' h' f' => hk η' ?_ ?_
    · intro p hp
      rcases List.mem_cons.1 hp with rfl | hp
      · rw [f' n hnd.1]; simp only [upd, if_true]; exact List.getElem?_eq_getElem ho
      · exact h' p hp
    · intro i hi
      simp only [List.map_cons, List.mem_cons, not_or] at hi
      rw [f' i hi.2]; simp only [upd]; rw [if_neg hi.1]

/-! What all tellings begin with. -/
def tlHead (z zV : List Value) (n : Nat) (own rf : FuncId) (k : NP) : NP := .op (.alloc z) [] 1 <| .chk 1 <| .op (.alloc zV) [] 2 <| .chk 2 <| .op (.call own) [.s 0] 3 <| .op (.call rf) [.q 2 0, .s 3] 4 <| .op (.isNil 2 true) [.s 4] 5 <|
  .ite (.s 5) (.op (.lit z []) [] 6 <| .op (.store n) [.q 1 0, .s 6] 7 <| .ret [.q 1 0, .k (.bool false)]) .nil k

theorem tlHead_ok (hn : Named P) {own rf fr : FuncId} {g n : Nat} {z zV : List Value} {bs : Bs} {C : (Nat → Prop) → World → List Value → Prop} (hown : OwnFn P own) (hRF : fnP P rf 2 = some (p_ReadFrom fr)) (hfr : RfFn P fr g zV bs C) (hlen : bs.length ≤ 1000) {w : World} {src : Value} {et : TypeId} {ev : Value} {η : Nat → Value} {k : NP} {Q : Post}
    (h0 : η 0 = src) (hsl : Sl0 w src bs) (herr : w.cell? ⟨g, 0, none⟩ = some (.iface et ev))
    (hk : ∀ η' w' R1 V cs, Keep [] w w' → w.heap.size ≤ R1 → R1 < V → Row w' R1 z → Row w' V cs → C (fun k => k ≠ V) w' cs → η' 1 = ptr R1 → η' 2 = ptr V → k.wp P Q η' w') : (tlHead z zV n own rf k).wp P Q η w := by
  have hglt : g < w.heap.size := cellLt herr
  refine np_op (vs := []) rfl (wp_alloc fun R1 w1 r1 hR1 k1 => ?_)
  refine ⟨⟨_, by simp only [upd]; rfl⟩, ?_⟩
  refine np_op (vs := []) rfl (wp_alloc fun V w2 r2 hV k2 => ?_)
  refine ⟨⟨_, by simp only [upd]; rfl⟩, ?_⟩
  have k02 := k1.then k2
  have hR1lt := r1.lt
  have hsl2 : Sl0 w2 src bs := by
    rcases hsl with h | ⟨a, c, h1, h2⟩
    · exact .inl h
    · refine .inr ⟨a, c, h1, fun j hj => ?_⟩
      have hc := h2 j hj
      have hlt : (a.add j).block < w.heap.size := cellLt hc
      rw [World.cell?_of_block (k02.block _ hlt (by simp))]
      exact hc
  refine np_op (vs := [src]) (by simp [SV.val, upd, h0]) (hown w2 src bs _ hsl2 (by unfold lim; omega) fun v3 w3 k3 s3 => ?_)
  have k03 := k02.then k3
  have r13 := r1.keep (k2.then k3) (by simp)
  have r23 := r2.keep k3 (by simp)
  have hk1 := k1.size
  have hVl := r2.lt
  have hgV : g ≠ V := by omega
  have herr3 : w3.cell? ⟨g, 0, none⟩ = some (.iface et ev) := by
    rw [World.cell?_of_block (w := w) (w' := w3) (k03.block g hglt (by simp))]; exact herr
  refine np_op (vs := [ptr V, v3]) (by simp [SV.val, upd, add0]) (wrap_ok hn hRF (hfr w3 V v3 _ _ r23 (s3.weak fun b hb hq => by omega) herr3 hgV fun w4 cs k4 r4 hc => ?_))
  refine np_op (vs := [.nilIface]) (by simp [SV.val, upd, pack]) ⟨_, true, rfl, rfl, ?_⟩
  refine iF (by simp [SV.val, upd]) ?_
  exact hk _ w4 R1 V cs (k03.trans k4 fun x hx hlt => by simp at hx; omega) hR1 (by omega) (r13.keep k4 (by simp; omega)) r4 hc (by simp [upd]) (by simp [upd])

/-- A telling of octets that are known. -/
def TlFn (P : Program) (f : FuncId) (g n : Nat) (bs : Bs) : Prop := ∀ (w : World) (src : Value) (K : Value → World → Prop) (et : TypeId) (ev : Value), Sl0 w src bs → w.cell? ⟨g, 0, none⟩ = some (.iface et ev) →
  (∀ (cs : List Value) (w' : World), Keep [] w w' → cs.length = n → (∀ v ∈ cs, v.oneCell' = true) → K (.tuple #[.agg cs.toArray, .bool true]) w') → In.wp P (.call f) [src] w K

/-- What all end with. -/
theorem tlEnd {n s m R1 : Nat} {z cs : List Value} {w0 w : World} {η : Nat → Value} {K : Value → World → Prop} (h1 : η 1 = ptr R1) (hs : η s = .agg cs.toArray) (hm : m ≠ 1) (hr : Row w R1 z) (hz : z.length = n) (hcs : cs.length = n) (hone : ∀ v ∈ cs, v.oneCell' = true) (hk0 : Keep [] w0 w) (hR : w0.heap.size ≤ R1)
    (hk : ∀ (cs : List Value) (w' : World), Keep [] w0 w' → cs.length = n → (∀ v ∈ cs, v.oneCell' = true) → K (.tuple #[.agg cs.toArray, .bool true]) w') : (NP.op (.store n) [.q 1 0, .s s] m <| .ret [.q 1 0, .k (.bool true)]).wp P (postP [.cells n, .direct] K) η w := by
  refine np_op (vs := [ptr R1, .agg cs.toArray]) (by simp [SV.val, h1, hs, add0]) (wp_store hr (n := n) ⟨by simp [Value.cells, hcs], by simp only [Value.cells]; simpa using hone⟩ (by omega) fun w5 r5 k5 => ?_)
  have hput : put z 0 (Value.agg cs.toArray).cells.toList = cs := by simp [put, Value.cells]; omega
  rw [hput] at r5
  have ht : (cs.drop 0).take n = cs := by rw [List.drop_zero, List.take_of_length_le (by omega)]
  refine ⟨R1, 0, cs, by simp [SV.val, upd, h1, add0, show ¬ 1 = m from fun h => hm h.symm], by have := r5.range 0 n; rwa [ht] at this, hcs, ?_⟩
  have := hk cs w5 (hk0.trans k5 fun x hx hlt => by simp at hx; omega) hcs hone
  show K (pack _) w5
  simpa [pack, SV.val] using this

/-! Headers. -/
abbrev lH : List (Nat × Nat) := [(0, 8), (1, 9)]

def p_tellH (own rf oct : FuncId) : FnP := ⟨tlHead zH [.string ByteArray.empty, .slice none 0 0] 3 own rf <|
  .draw <|
  lkL 2 lH <|
  .op (.call oct) [.s 9] 10 <| kpL 2 lH.reverse <|
  .op (.litG zH [(0, 1), (1, 2)]) [.s 8, .s 10] 11 <| kpL 2 lH.reverse <|
  .op (.store 3) [.q 1 0, .s 11] 12 <|
  .ret [.q 1 0, .k (.bool true)], [.cells 3, .direct]⟩

theorem tellH_ok (hn : Named P) {f own rf oct fr : FuncId} {g : Nat} (hf : fnP P f 1 = some (p_tellH own rf oct)) (hown : OwnFn P own) (hoct : OctFn P oct) (hRF : fnP P rf 2 = some (p_ReadFrom fr)) (hfr : RfFn P fr g [.string ByteArray.empty, .slice none 0 0] [0, 0] CH) : TlFn P f g 3 [0, 0] := by
  intro w src K et ev hsl herr hk
  refine calls_of_np hn (vs := [src]) hf fun η hη => ?_
  refine tlHead_ok hn hown hRF hfr (by simp) (hη 0 (by simp)) hsl herr fun η1 w1 R1 V cs k1 hR hRV rR rV hc z1 z2 => ?_
  obtain ⟨v1, rfl, o1⟩ := hc
  have kd := keep_drawn w1
  refine np_draw ?_
  generalize hw2 : ({ w1 with drawn := w1.drawn + 1 } : World) = w2 at kd ⊢
  have rV2 := rV.keep kd (by simp)
  refine lkL_ok rV2 z2 (by rfl) (by decide) fun η2 h2 f2 => ?_
  have a1 : η2 1 = ptr R1 := by rw [f2 1 (by decide)]; exact z1
  have a2 : η2 2 = ptr V := by rw [f2 2 (by decide)]; exact z2
  have e8 : η2 8 = .string ⟨([] : Bs).toArray⟩ := by have := h2 (0, 8) (by simp); simpa using this.symm
  have e9 : η2 9 = v1 := by have := h2 (1, 9) (by simp); simpa using this.symm
  refine np_op (vs := [v1]) (by simp [SV.val, e9]) (hoct _ w2 _ v1 _ (good_oc.same _ _ _ _ _ o1 (kd.same fun x hx => by cases hx)) (by unfold lim; simp) fun d w3 k3 s3 => ?_)
  have rV3 := rV2.keep k3 (by simp)
  have h3 := h2.upd (n := 10) (by decide) (.agg #[.bool (some ([] : Bs)).isNone, d])
  refine kpL_ok (by simp [upd, a2]) rV3 h3.rev ?_
  have d1 : One d := One.sl s3
  have hA : (Value.agg #[.bool false, d]).cells = #[.bool false, d] := rfl
  have hS : ∀ s, (Value.string s).cells = #[.string s] := fun s => rfl
  refine np_op (vs := [.string ⟨([] : Bs).toArray⟩, .agg #[.bool false, d]]) (by simp [SV.val, upd, e8]) ⟨[.string ⟨([] : Bs).toArray⟩, .bool false, d], by simp [fillG, hS, hA], ?_⟩
  refine kpL_ok (by simp [upd, a2]) rV3 (h3.upd (n := 11) (by decide) _).rev ?_
  refine tlEnd (R1 := R1) (z := zH) (cs := [.string ⟨([] : Bs).toArray⟩, .bool false, d]) (by simp [upd, a1]) (by simp [upd]) (by omega) (rR.keep (kd.then k3) (by simp)) rfl rfl (fun v hv => ?_) (k1.then (kd.then k3)) hR hk
  simp only [List.mem_cons, List.not_mem_nil, or_false] at hv
  rcases hv with h | h | h
  · rw [h]; rfl
  · rw [h]; rfl
  · rw [h]; exact d1.2

/-! Old messages. -/
abbrev l0 : List (Nat × Nat) := [(0, 8), (1, 9), (2, 10), (3, 11), (4, 12), (5, 13), (6, 14)]

def p_tell0 (own rf oct : FuncId) : FnP := ⟨tlHead zO zV0 10 own rf <|
  .draw <|
  lkL 2 l0 <|
  .op (.call oct) [.s 13] 15 <| kpL 2 l0.reverse <|
  .op (.call oct) [.s 14] 16 <| kpL 2 l0.reverse <|
  .op (.litG zO [(0, 1), (1, 1), (2, 1), (3, 1), (4, 1), (6, 2), (8, 2)]) [.s 8, .s 9, .s 10, .s 11, .s 12, .s 15, .s 16] 17 <| kpL 2 l0.reverse <|
  .op (.store 10) [.q 1 0, .s 17] 18 <|
  .ret [.q 1 0, .k (.bool true)], [.cells 10, .direct]⟩

theorem old_one {d1 d2 : Value} (q1 : One d1) (q2 : One d2) : ∀ v ∈ [Value.int .i64 0, .int .i32 0, .int .i32 0, .int .i8 0, .int .i8 0, .int .i64 0, .bool false, d1, .bool false, d2], v.oneCell' = true := by
  intro v hv
  simp only [List.mem_cons, List.not_mem_nil, or_false] at hv
  rcases hv with h | h | h | h | h | h | h | h | h | h
  · rw [h]; rfl
  · rw [h]; rfl
  · rw [h]; rfl
  · rw [h]; rfl
  · rw [h]; rfl
  · rw [h]; rfl
  · rw [h]; rfl
  · rw [h]; exact q1.2
  · rw [h]; rfl
  · rw [h]; exact q2.2

theorem tell0_ok (hn : Named P) {f own rf oct fr : FuncId} {g : Nat} (hf : fnP P f 1 = some (p_tell0 own rf oct)) (hown : OwnFn P own) (hoct : OctFn P oct) (hRF : fnP P rf 2 = some (p_ReadFrom fr)) (hfr : RfFn P fr g zV0 (zr 26) C0) : TlFn P f g 10 (zr 26) := by
  intro w src K et ev hsl herr hk
  refine calls_of_np hn (vs := [src]) hf fun η hη => ?_
  refine tlHead_ok hn hown hRF hfr (by simp) (hη 0 (by simp)) hsl herr fun η1 w1 R1 V cs k1 hR hRV rR rV hc z1 z2 => ?_
  obtain ⟨v5, v6, rfl, o5, o6⟩ := hc
  have kd := keep_drawn w1
  refine np_draw ?_
  generalize hw2 : ({ w1 with drawn := w1.drawn + 1 } : World) = w2 at kd ⊢
  have rV2 := rV.keep kd (by simp)
  refine lkL_ok rV2 z2 (by rfl) (by decide) fun η2 h2 f2 => ?_
  have a1 : η2 1 = ptr R1 := by rw [f2 1 (by decide)]; exact z1
  have a2 : η2 2 = ptr V := by rw [f2 2 (by decide)]; exact z2
  have e8 : η2 8 = .int .i64 0 := by have := h2 (0, 8) (by simp); simpa using this.symm
  have e9 : η2 9 = .int .i32 0 := by have := h2 (1, 9) (by simp); simpa using this.symm
  have e10 : η2 10 = .int .i32 0 := by have := h2 (2, 10) (by simp); simpa using this.symm
  have e11 : η2 11 = .int .i8 0 := by have := h2 (3, 11) (by simp); simpa using this.symm
  have e12 : η2 12 = .int .i8 0 := by have := h2 (4, 12) (by simp); simpa using this.symm
  have e13 : η2 13 = v5 := by have := h2 (5, 13) (by simp); simpa using this.symm
  have e14 : η2 14 = v6 := by have := h2 (6, 14) (by simp); simpa using this.symm
  refine np_op (vs := [v5]) (by simp [SV.val, e13]) (hoct _ w2 _ v5 _ (good_oc.same _ _ _ _ _ o5 (kd.same fun x hx => by cases hx)) (by unfold lim; simp) fun d1 w3 k3 s3 => ?_)
  have rV3 := rV2.keep k3 (by simp)
  have h3 := h2.upd (n := 15) (by decide) (.agg #[.bool (some ([] : Bs)).isNone, d1])
  refine kpL_ok (by simp [upd, a2]) rV3 h3.rev ?_
  refine np_op (vs := [v6]) (by simp [SV.val, upd, e14]) (hoct _ w3 _ v6 _ (good_oc.same _ _ _ _ _ o6 ((kd.then k3).same fun x hx => by cases hx)) (by unfold lim; simp) fun d2 w4 k4 s4 => ?_)
  have rV4 := rV3.keep k4 (by simp)
  have h4 := h3.upd (n := 16) (by decide) (.agg #[.bool (some ([] : Bs)).isNone, d2])
  refine kpL_ok (by simp [upd, a2]) rV4 h4.rev ?_
  have hA : (Value.agg #[.bool false, d1]).cells = #[.bool false, d1] := rfl
  have hB : (Value.agg #[.bool false, d2]).cells = #[.bool false, d2] := rfl
  have hI : ∀ k n, (Value.int k n).cells = #[.int k n] := fun k n => rfl
  refine np_op (vs := [.int .i64 0, .int .i32 0, .int .i32 0, .int .i8 0, .int .i8 0, .agg #[.bool false, d1], .agg #[.bool false, d2]]) (by simp [SV.val, upd, e8, e9, e10, e11, e12]) ⟨[.int .i64 0, .int .i32 0, .int .i32 0, .int .i8 0, .int .i8 0, .int .i64 0, .bool false, d1, .bool false, d2], by simp [fillG, hI, hA, hB], ?_⟩
  refine kpL_ok (by simp [upd, a2]) rV4 (h4.upd (n := 17) (by decide) _).rev ?_
  exact tlEnd (R1 := R1) (z := zO) (cs := [.int .i64 0, .int .i32 0, .int .i32 0, .int .i8 0, .int .i8 0, .int .i64 0, .bool false, d1, .bool false, d2]) (by simp [upd, a1]) (by simp [upd]) (by omega) (rR.keep (kd.then (k3.then k4)) (by simp)) rfl rfl (old_one (One.sl s3) (One.sl s4)) (k1.then (kd.then (k3.then k4))) hR hk

abbrev l1 : List (Nat × Nat) := [(0, 8), (1, 9), (2, 10), (3, 11), (4, 12), (5, 13), (6, 14), (7, 15)]

def p_tell1 (own rf oct : FuncId) : FnP := ⟨tlHead zO zV1 10 own rf <|
  .draw <|
  lkL 2 l1 <|
  .op (.call oct) [.s 14] 16 <| kpL 2 l1.reverse <|
  .op (.call oct) [.s 15] 17 <| kpL 2 l1.reverse <|
  .op (.litG zO [(0, 1), (1, 1), (2, 1), (3, 1), (4, 1), (5, 1), (6, 2), (8, 2)]) [.s 8, .s 9, .s 10, .s 11, .s 12, .s 13, .s 16, .s 17] 18 <| kpL 2 l1.reverse <|
  .op (.store 10) [.q 1 0, .s 18] 19 <|
  .ret [.q 1 0, .k (.bool true)], [.cells 10, .direct]⟩

theorem tell1_ok (hn : Named P) {f own rf oct fr : FuncId} {g : Nat} (hf : fnP P f 1 = some (p_tell1 own rf oct)) (hown : OwnFn P own) (hoct : OctFn P oct) (hRF : fnP P rf 2 = some (p_ReadFrom fr)) (hfr : RfFn P fr g zV1 (zr 34) C1) : TlFn P f g 10 (zr 34) := by
  intro w src K et ev hsl herr hk
  refine calls_of_np hn (vs := [src]) hf fun η hη => ?_
  refine tlHead_ok hn hown hRF hfr (by simp) (hη 0 (by simp)) hsl herr fun η1 w1 R1 V cs k1 hR hRV rR rV hc z1 z2 => ?_
  obtain ⟨v6, v7, rfl, o6, o7⟩ := hc
  have kd := keep_drawn w1
  refine np_draw ?_
  generalize hw2 : ({ w1 with drawn := w1.drawn + 1 } : World) = w2 at kd ⊢
  have rV2 := rV.keep kd (by simp)
  refine lkL_ok rV2 z2 (by rfl) (by decide) fun η2 h2 f2 => ?_
  have a1 : η2 1 = ptr R1 := by rw [f2 1 (by decide)]; exact z1
  have a2 : η2 2 = ptr V := by rw [f2 2 (by decide)]; exact z2
  have e8 : η2 8 = .int .i64 0 := by have := h2 (0, 8) (by simp); simpa using this.symm
  have e9 : η2 9 = .int .i32 0 := by have := h2 (1, 9) (by simp); simpa using this.symm
  have e10 : η2 10 = .int .i32 0 := by have := h2 (2, 10) (by simp); simpa using this.symm
  have e11 : η2 11 = .int .i8 0 := by have := h2 (3, 11) (by simp); simpa using this.symm
  have e12 : η2 12 = .int .i8 0 := by have := h2 (4, 12) (by simp); simpa using this.symm
  have e13 : η2 13 = .int .i64 0 := by have := h2 (5, 13) (by simp); simpa using this.symm
  have e14 : η2 14 = v6 := by have := h2 (6, 14) (by simp); simpa using this.symm
  have e15 : η2 15 = v7 := by have := h2 (7, 15) (by simp); simpa using this.symm
  refine np_op (vs := [v6]) (by simp [SV.val, e14]) (hoct _ w2 _ v6 _ (good_oc.same _ _ _ _ _ o6 (kd.same fun x hx => by cases hx)) (by unfold lim; simp) fun d1 w3 k3 s3 => ?_)
  have rV3 := rV2.keep k3 (by simp)
  have h3 := h2.upd (n := 16) (by decide) (.agg #[.bool (some ([] : Bs)).isNone, d1])
  refine kpL_ok (by simp [upd, a2]) rV3 h3.rev ?_
  refine np_op (vs := [v7]) (by simp [SV.val, upd, e15]) (hoct _ w3 _ v7 _ (good_oc.same _ _ _ _ _ o7 ((kd.then k3).same fun x hx => by cases hx)) (by unfold lim; simp) fun d2 w4 k4 s4 => ?_)
  have rV4 := rV3.keep k4 (by simp)
  have h4 := h3.upd (n := 17) (by decide) (.agg #[.bool (some ([] : Bs)).isNone, d2])
  refine kpL_ok (by simp [upd, a2]) rV4 h4.rev ?_
  have hA : (Value.agg #[.bool false, d1]).cells = #[.bool false, d1] := rfl
  have hB : (Value.agg #[.bool false, d2]).cells = #[.bool false, d2] := rfl
  have hI : ∀ k n, (Value.int k n).cells = #[.int k n] := fun k n => rfl
  refine np_op (vs := [.int .i64 0, .int .i32 0, .int .i32 0, .int .i8 0, .int .i8 0, .int .i64 0, .agg #[.bool false, d1], .agg #[.bool false, d2]]) (by simp [SV.val, upd, e8, e9, e10, e11, e12, e13]) ⟨[.int .i64 0, .int .i32 0, .int .i32 0, .int .i8 0, .int .i8 0, .int .i64 0, .bool false, d1, .bool false, d2], by simp [fillG, hI, hA, hB], ?_⟩
  refine kpL_ok (by simp [upd, a2]) rV4 (h4.upd (n := 18) (by decide) _).rev ?_
  exact tlEnd (R1 := R1) (z := zO) (cs := [.int .i64 0, .int .i32 0, .int .i32 0, .int .i8 0, .int .i8 0, .int .i64 0, .bool false, d1, .bool false, d2]) (by simp [upd, a1]) (by simp [upd]) (by omega) (rR.keep (kd.then (k3.then k4)) (by simp)) rfl rfl (old_one (One.sl s3) (One.sl s4)) (k1.then (kd.then (k3.then k4))) hR hk

/-! Batches. -/
abbrev lB : List (Nat × Nat) := [(0, 8), (1, 9), (2, 10), (3, 11), (4, 12), (5, 13), (6, 14), (7, 15), (8, 16), (9, 17), (10, 18), (11, 19), (12, 20), (13, 21)]

def p_tellB (own rf : FuncId) : FnP := ⟨tlHead (zB 0) (zB 0) 14 own rf <|
  .draw <|
  lkL 2 lB <|
  .op (.call own) [.s 21] 22 <| kpL 2 lB.reverse <|
  .op (.lit (zB 0) [0, 1, 2, 3, 4, 5, 6, 7, 8, 9, 10, 11, 12, 13]) [.s 8, .s 9, .s 10, .s 11, .s 12, .s 13, .s 14, .s 15, .s 16, .s 17, .s 18, .s 19, .s 20, .s 22] 23 <| kpL 2 lB.reverse <|
  .op (.store 14) [.q 1 0, .s 23] 24 <|
  .ret [.q 1 0, .k (.bool true)], [.cells 14, .direct]⟩

def isI : Value → Bool
  | .int _ _ => true
  | _ => false

theorem lit_one {L : List Value} {d : Value} (hL : L.all isI = true) (hd : One d) : (∀ v ∈ L ++ [d], v.cells.size = 1 ∧ v.cells.toList = [v]) ∧ ∀ v ∈ L ++ [d], v.oneCell' = true := by
  have key : ∀ v ∈ L ++ [d], One v := fun v hv => by
    rcases List.mem_append.1 hv with h | h
    · have := List.all_eq_true.1 hL v h
      cases v <;> first | exact ⟨rfl, rfl⟩ | (simp [isI] at this)
    · rw [List.mem_singleton.1 h]; exact hd
  exact ⟨fun v hv => ⟨by rw [(key v hv).1]; rfl, (key v hv).list⟩, fun v hv => (key v hv).2⟩

theorem tellB_ok (hn : Named P) {f own rf fr : FuncId} {g : Nat} (hf : fnP P f 1 = some (p_tellB own rf)) (hown : OwnFn P own) (hRF : fnP P rf 2 = some (p_ReadFrom fr)) (hfr : RfFn P fr g (zB 0) bBatch CB) : TlFn P f g 14 bBatch := by
  intro w src K et ev hsl herr hk
  refine calls_of_np hn (vs := [src]) hf fun η hη => ?_
  refine tlHead_ok hn hown hRF hfr (by decide) (hη 0 (by simp)) hsl herr fun η1 w1 R1 V cs k1 hR hRV rR rV hc z1 z2 => ?_
  obtain ⟨v, rfl, o⟩ := hc
  have kd := keep_drawn w1
  refine np_draw ?_
  generalize hw2 : ({ w1 with drawn := w1.drawn + 1 } : World) = w2 at kd ⊢
  have rV2 := rV.keep kd (by simp)
  refine lkL_ok rV2 z2 (by rfl) (by decide) fun η2 h2 f2 => ?_
  have a1 : η2 1 = ptr R1 := by rw [f2 1 (by decide)]; exact z1
  have a2 : η2 2 = ptr V := by rw [f2 2 (by decide)]; exact z2
  have ev : ∀ (j : Nat) (x : Value), (j, j + 8) ∈ lB → ([.int .i64 0, .int .i32 49, .int .i32 0, .int .i8 0, .int .i32 0, .int .i16 0, .int .i32 0, .int .i64 0, .int .i64 0, .int .i64 0, .int .i16 0, .int .i32 0, .int .i32 0, v] : List Value)[j]? = some x → η2 (j + 8) = x := fun j x hj hx => by
    have := h2 (j, j + 8) hj
    rw [hx] at this
    exact (Option.some.inj this).symm
  have e8 : η2 8 = .int .i64 0 := ev 0 _ (by simp) rfl
  have e9 : η2 9 = .int .i32 49 := ev 1 _ (by simp) rfl
  have e10 : η2 10 = .int .i32 0 := ev 2 _ (by simp) rfl
  have e11 : η2 11 = .int .i8 0 := ev 3 _ (by simp) rfl
  have e12 : η2 12 = .int .i32 0 := ev 4 _ (by simp) rfl
  have e13 : η2 13 = .int .i16 0 := ev 5 _ (by simp) rfl
  have e14 : η2 14 = .int .i32 0 := ev 6 _ (by simp) rfl
  have e15 : η2 15 = .int .i64 0 := ev 7 _ (by simp) rfl
  have e16 : η2 16 = .int .i64 0 := ev 8 _ (by simp) rfl
  have e17 : η2 17 = .int .i64 0 := ev 9 _ (by simp) rfl
  have e18 : η2 18 = .int .i16 0 := ev 10 _ (by simp) rfl
  have e19 : η2 19 = .int .i32 0 := ev 11 _ (by simp) rfl
  have e20 : η2 20 = .int .i32 0 := ev 12 _ (by simp) rfl
  have e21 : η2 21 = v := ev 13 _ (by simp) rfl
  have o2 : Sl0 w2 v [] := (o.same (kd.same fun x hx => by cases hx)).sl0
  refine np_op (vs := [v]) (by simp [SV.val, e21]) (hown w2 v [] _ o2 (by unfold lim; simp) fun d w3 k3 s3 => ?_)
  have rV3 := rV2.keep k3 (by simp)
  have h3 := h2.upd (n := 22) (by decide) d
  refine kpL_ok (by simp [upd, a2]) rV3 h3.rev ?_
  have d1 : One d := One.sl s3
  obtain ⟨q1, q2⟩ := lit_one (L := [.int .i64 0, .int .i32 49, .int .i32 0, .int .i8 0, .int .i32 0, .int .i16 0, .int .i32 0, .int .i64 0, .int .i64 0, .int .i64 0, .int .i16 0, .int .i32 0, .int .i32 0]) rfl d1
  refine np_op (vs := [.int .i64 0, .int .i32 49, .int .i32 0, .int .i8 0, .int .i32 0, .int .i16 0, .int .i32 0, .int .i64 0, .int .i64 0, .int .i64 0, .int .i16 0, .int .i32 0, .int .i32 0, d]) (by simp [SV.val, upd, e8, e9, e10, e11, e12, e13, e14, e15, e16, e17, e18, e19, e20]) ⟨rfl, q1, ?_⟩
  refine kpL_ok (by simp [upd, a2]) rV3 (h3.upd (n := 23) (by decide) _).rev ?_
  exact tlEnd (R1 := R1) (z := zB 0) (cs := [.int .i64 0, .int .i32 49, .int .i32 0, .int .i8 0, .int .i32 0, .int .i16 0, .int .i32 0, .int .i64 0, .int .i64 0, .int .i64 0, .int .i16 0, .int .i32 0, .int .i32 0, d]) (by simp [upd, a1]) (by simp [upd, putAll]) (by omega) (rR.keep (kd.then k3) (by simp)) rfl rfl q2 (k1.then (kd.then k3)) hR hk

/-! Members. -/
def tkBody (eI eP : TypeId) : NP := .op (.bin .lss) [.s 14, .s 13] 15 <|
    .ite (.s 15)
      (.nil)
      (.exit) <|
    .op (.ia 2) [.s 12, .s 14] 16 <|
    .chk 16 <|
    .op (.loadN 2) [.q 16 0] 17 <|
    .op (.alloc [.string ByteArray.empty, .slice none 0 0]) [] 18 <|
    .chk 18 <|
    .op (.store 2) [.q 18 0, .s 17] 19 <|
    .draw <|
    .look .load [.q 10 0] 20 <|
    .look .load [.q 18 0] 21 <|
    .look .load [.q 18 1] 22 <|
    .op (.appG eI 1) [.k (.slice none 0 0), .s 22] 23 <|
    .keep .load [.q 18 1] 22 <|
    .keep .load [.q 18 0] 21 <|
    .keep .load [.q 10 0] 20 <|
    .op (.lit [.string ByteArray.empty, .slice none 0 0] [0, 1]) [.s 21, .s 23] 24 <|
    .keep .load [.q 18 1] 22 <|
    .keep .load [.q 18 0] 21 <|
    .keep .load [.q 10 0] 20 <|
    .op (.bslG 2) [.s 24] 25 <|
    .keep .load [.q 18 1] 22 <|
    .keep .load [.q 18 0] 21 <|
    .keep .load [.q 10 0] 20 <|
    .op (.appG eP 2) [.s 20, .s 25] 26 <|
    .keep .load [.q 18 1] 22 <|
    .keep .load [.q 18 0] 21 <|
    .keep .load [.q 10 0] 20 <|
    .op (.store 1) [.q 10 0, .s 26] 27 <|
    .op (.bin .add) [.s 14, .k (.int .i64 1)] 28 <|
    .set 29 (.s 28) <|
    .set 14 (.s 29) <|
    .nil

abbrev zS : List Value := [.slice none 0 0, .int .i32 0]

def p_tellS (own rf : FuncId) (eI eP : TypeId) : FnP := ⟨tlHead zS zS 2 own rf <|
  .op .load [.q 2 1] 8 <|
  .op (.lit zS [1]) [.s 8] 9 <|
  .op (.alloc zS) [] 10 <|
  .chk 10 <|
  .op (.store 2) [.q 10 0, .s 9] 11 <|
  .op .load [.q 2 0] 12 <|
  .op .len [.s 12] 13 <|
  .set 14 (.k (.int .i64 0)) <|
  .loop (tkBody eI eP) <|
  .op (.loadN 2) [.q 10 0] 30 <|
  .op (.store 2) [.q 1 0, .s 30] 31 <|
  .ret [.q 1 0, .k (.bool true)], [.cells 2, .direct]⟩

theorem tellS_ok (hn : Named P) {f own rf fr : FuncId} {eI eP : TypeId} {g : Nat} (hf : fnP P f 1 = some (p_tellS own rf eI eP)) (hown : OwnFn P own) (hRF : fnP P rf 2 = some (p_ReadFrom fr)) (hfr : RfFn P fr g zS (zr 8) CK) : TlFn P f g 2 (zr 8) := by
  intro w src K et ev hsl herr hk
  refine calls_of_np hn (vs := [src]) hf fun η hη => ?_
  refine tlHead_ok hn hown hRF hfr (by simp) (hη 0 (by simp)) hsl herr fun η1 w1 R1 V cs k1 hR hRV rR rV hc z1 z2 => ?_
  have hc : cs = zS := hc
  subst hc
  have hVl := rV.lt
  refine np_op (vs := [.pointer (some ⟨V, 1, none⟩)]) (by simp [SV.val, z2, Addr.add]) (wp_load rV rfl ?_)
  refine np_op (vs := [.int .i32 0]) (by simp [SV.val, upd]) ⟨rfl, fun v hv => by simp at hv; subst hv; exact ⟨rfl, rfl⟩, ?_⟩
  refine np_op (vs := []) rfl (wp_alloc fun O w2 rO hO k2 => ?_)
  refine ⟨⟨_, by simp only [upd]; rfl⟩, ?_⟩
  refine np_op (vs := [ptr O, .agg zS.toArray]) (by simp [SV.val, upd, add0, putAll]) (wp_store rO (n := 2) ⟨rfl, by simp [Value.cells, Value.oneCell']⟩ (by simp) fun w3 rO3 k3 => ?_)
  have rO3 : Row w3 O zS := rO3
  have k13 : Keep [] w1 w3 := k2.trans k3 fun x hx hlt => by simp at hx; omega
  have rV3 := rV.keep k13 (by simp)
  refine np_op (vs := [ptr V]) (by simp [SV.val, upd, z2, add0]) (wp_load rV3 rfl ?_)
  refine np_op (vs := [.slice none 0 0]) (by simp [SV.val, upd]) ⟨_, _, _, rfl, ?_⟩
  refine lp (fun m η' w' => w' = w3 ∧ η' 1 = ptr R1 ∧ η' 10 = ptr O ∧ η' 13 = .int .i64 0 ∧ η' 14 = .int .i64 0) 0 ⟨rfl, by simp [upd, z1], by simp [upd], by simp [upd, goInt], by simp [upd, SV.val]⟩ ?_
  rintro m η' w' ⟨rfl, y1, y10, y13, y14⟩
  refine np_op (vs := [.int .i64 0, .int .i64 0]) (by simp [SV.val, y13, y14]) ⟨.i64, _, _, _, rfl, rfl, ?_⟩
  refine iF (by simp [SV.val, upd]) ?_
  refine np_op (vs := [ptr O]) (by simp [SV.val, upd, y10, add0]) (wp_loadN rO3 (by simp) ?_)
  exact tlEnd (R1 := R1) (z := zS) (cs := zS) (by simp [upd, y1]) (by simp [upd]) (by omega) (rR.keep k13 (by simp)) rfl rfl (fun v hv => by simp only [zS, List.mem_cons, List.not_mem_nil, or_false] at hv; rcases hv with h | h <;> rw [h] <;> rfl) (k1.then k13) hR hk

end
end Go.Ar

/- THE READERS ARE AWAKE. -/
namespace Go.Ar
open Go.Lx Go.Nx Go.Km Go.Mx Go.Kb

set_option linter.unusedSimpArgs false
set_option linter.unusedVariables false

section
variable {P : Program} {e : TypeId}

/-- What is told, put down. -/
def pc (z : List Value) (n t : Nat) (k : NP) : NP := .op (.ex 0) [.s t] (t + 1) <| .op (.ex 1) [.s t] (t + 2) <| .op (.alloc z) [] (t + 3) <| .chk (t + 3) <| .op (.store n) [.q (t + 3) 0, .s (t + 1)] (t + 4) k

theorem pc_ok {z cs : List Value} {n t : Nat} {k : NP} {Q : Post} {η : Nat → Value} {w : World} (ht : η t = .tuple #[.agg cs.toArray, .bool true]) (hz : z.length = n) (hcs : cs.length = n) (hone : ∀ v ∈ cs, v.oneCell' = true)
    (hk : ∀ η' w', Keep [] w w' → (∀ i, i < t → η' i = η i) → η' (t + 2) = .bool true → k.wp P Q η' w') : (pc z n t k).wp P Q η w := by
  refine np_op (vs := [.tuple #[.agg cs.toArray, .bool true]]) (by simp [SV.val, ht]) ⟨_, _, rfl, rfl, ?_⟩
  refine np_op (vs := [.tuple #[.agg cs.toArray, .bool true]]) (by simp [SV.val, upd, ht]) ⟨_, _, rfl, rfl, ?_⟩
  refine np_op (vs := []) rfl (wp_alloc fun X w1 r1 hX k1 => ?_)
  refine ⟨⟨_, by simp only [upd, if_true]; rfl⟩, ?_⟩
  refine np_op (vs := [ptr X, .agg cs.toArray]) (by simp [SV.val, upd, add0]) (wp_store r1 (n := n) ⟨by simp [Value.cells, hcs], by simp only [Value.cells]; simpa using hone⟩ (by omega) fun w2 r2 k2 => ?_)
  exact hk _ w2 (k1.trans k2 fun x hx hlt => by simp at hx; omega) (fun i hi => by simp only [upd]; rw [if_neg (by omega), if_neg (by omega), if_neg (by omega), if_neg (by omega)]) (by simp [upd])

structure WI where
  hB : FuncId
  tH : FuncId
  sB : FuncId
  tS : FuncId
  oB : FuncId
  t0 : FuncId
  t1 : FuncId
  ms : FuncId
  rB : FuncId
  tR : FuncId
  wh : FuncId
  bB : FuncId
  tB : FuncId

structure WFns (P : Program) (I : WI) (e : TypeId) (g : Nat) : Prop where
  hB : Gv P e I.hB [.agg zH.toArray] [0, 0]
  tH : TlFn P I.tH g 3 [0, 0]
  sB : Gv P e I.sB [.agg zS.toArray] (zr 8)
  tS : TlFn P I.tS g 2 (zr 8)
  o0 : Gv P e I.oB [.int .i64 0, .agg zO.toArray] (zr 26)
  t0 : TlFn P I.t0 g 10 (zr 26)
  o1 : Gv P e I.oB [.int .i64 1, .agg zO.toArray] (zr 34)
  t1 : TlFn P I.t1 g 10 (zr 34)
  ms : Gc P I.ms [.agg (zR 0).toArray] (.agg (zR 6).toArray)
  rB : Gv P e I.rB [.agg (zR 6).toArray] [12, 0, 0, 0, 0, 0, 0]
  tR : TellFn P I.tR g
  wh : Gc P I.wh [.agg (zB 0).toArray] (.agg (zB 49).toArray)
  bB : Gv P e I.bB [.agg (zB 49).toArray] bBatch
  tB : TlFn P I.tB g 14 bBatch

def awEnd : NP := .ite (.s 4)
    (.set 44 (.s 11) <|
    .nil)
    (.set 44 (.k (.tuple #[])) <|
    .nil) <|
  .ite (.s 4)
    (.set 45 (.s 44) <|
    .nil)
    (.set 45 (.k (.bool false)) <|
    .nil) <|
  .ite (.s 45)
    (.set 46 (.s 18) <|
    .nil)
    (.set 46 (.k (.tuple #[])) <|
    .nil) <|
  .ite (.s 45)
    (.set 47 (.s 46) <|
    .nil)
    (.set 47 (.k (.bool false)) <|
    .nil) <|
  .ite (.s 47)
    (.set 48 (.s 25) <|
    .nil)
    (.set 48 (.k (.tuple #[])) <|
    .nil) <|
  .ite (.s 47)
    (.set 49 (.s 48) <|
    .nil)
    (.set 49 (.k (.bool false)) <|
    .nil) <|
  .ite (.s 49)
    (.set 50 (.s 33) <|
    .nil)
    (.set 50 (.k (.tuple #[])) <|
    .nil) <|
  .ite (.s 49)
    (.set 51 (.s 50) <|
    .nil)
    (.set 51 (.k (.bool false)) <|
    .nil) <|
  .ite (.s 51)
    (.set 52 (.s 41) <|
    .nil)
    (.set 52 (.k (.tuple #[])) <|
    .nil) <|
  .ite (.s 51)
    (.set 53 (.s 52) <|
    .nil)
    (.set 53 (.k (.bool false)) <|
    .nil) <|
  .ret [.s 53]

def p_awake (I : WI) : FnP := ⟨.op (.lit zH []) [] 0 <|
  .op (.call I.hB) [.s 0] 1 <|
  .op (.call I.tH) [.s 1] 2 <| pc zH 3 2 <|
  .op (.lit zS []) [] 7 <|
  .op (.call I.sB) [.s 7] 8 <|
  .op (.call I.tS) [.s 8] 9 <| pc zS 2 9 <|
  .op (.lit zO []) [] 14 <|
  .op (.call I.oB) [.k (.int .i64 0), .s 14] 15 <|
  .op (.call I.t0) [.s 15] 16 <| pc zO 10 16 <|
  .op (.lit zO []) [] 21 <|
  .op (.call I.oB) [.k (.int .i64 1), .s 21] 22 <|
  .op (.call I.t1) [.s 22] 23 <| pc zO 10 23 <|
  .op (.lit (zR 0) []) [] 28 <|
  .op (.call I.ms) [.s 28] 29 <|
  .op (.call I.rB) [.s 29] 30 <|
  .op (.call I.tR) [.s 30] 31 <| pc (zR 0) 9 31 <|
  .op (.lit (zB 0) []) [] 36 <|
  .op (.call I.wh) [.s 36] 37 <|
  .op (.call I.bB) [.s 37] 38 <|
  .op (.call I.tB) [.s 38] 39 <| pc (zB 0) 14 39 <|
  awEnd, [.direct]⟩

theorem rec_some : (rdRec [12, 0, 0, 0, 0, 0, 0]).isSome = true := by kernel_rfl

theorem awake_ok (hn : Named P) {I : WI} {g : Nat} (F : WFns P I e g) {f : FuncId} (hf : fnP P f 0 = some (p_awake I)) : AwG P f g := by
  intro w K et ev herr hk
  refine calls_of_np hn (vs := []) hf fun η hη => ?_
  have hgl : g < w.heap.size := cellLt herr
  have er : ∀ {w' : World}, Keep [] w w' → w'.cell? ⟨g, 0, none⟩ = some (.iface et ev) := fun {w'} k => by
    rw [World.cell?_of_block (w := w) (w' := w') (k.block g hgl (by simp))]; exact herr
  have lit : ∀ {z : List Value} {n : Nat} {k : NP} {Q : Post} {ζ : Nat → Value} {w' : World}, k.wp P Q (upd ζ n (.agg z.toArray)) w' → (NP.op (.lit z []) [] n k).wp P Q ζ w' := fun {z n k Q ζ w'} h =>
    np_op (vs := []) rfl ⟨rfl, (fun v hv => by cases hv), by simpa [putAll] using h⟩
  -- a header
  refine lit ?_
  refine np_op (vs := [.agg zH.toArray]) (by simp [SV.val, upd]) (F.hB w _ fun d w1 k1 o1 => ?_)
  refine np_op (vs := [d]) (by simp [SV.val, upd]) (F.tH w1 d _ et ev (own_sl0 o1) (er k1) fun cs w2 k2 hl ho => ?_)
  have c2 := k1.then k2
  refine pc_ok (by simp [upd]) rfl hl ho fun η1 w3 k3 f1 y4 => ?_
  have c3 := c2.then k3
  have y4 : η1 4 = .bool true := y4
  -- members
  refine lit ?_
  refine np_op (vs := [.agg zS.toArray]) (by simp [SV.val, upd]) (F.sB w3 _ fun d w4 k4 o4 => ?_)
  refine np_op (vs := [d]) (by simp [SV.val, upd]) (F.tS w4 d _ et ev (own_sl0 o4) (er (c3.then k4)) fun cs w5 k5 hl ho => ?_)
  have c5 := (c3.then k4).then k5
  refine pc_ok (by simp [upd]) rfl hl ho fun η2 w6 k6 f2 y11 => ?_
  have c6 := c5.then k6
  have y11 : η2 11 = .bool true := y11
  have a4 : η2 4 = .bool true := by rw [f2 4 (by omega)]; simp [upd, y4]
  -- an old message
  refine lit ?_
  refine np_op (vs := [.int .i64 0, .agg zO.toArray]) (by simp [SV.val, upd]) (F.o0 w6 _ fun d w7 k7 o7 => ?_)
  refine np_op (vs := [d]) (by simp [SV.val, upd]) (F.t0 w7 d _ et ev (own_sl0 o7) (er (c6.then k7)) fun cs w8 k8 hl ho => ?_)
  have c8 := (c6.then k7).then k8
  refine pc_ok (by simp [upd]) rfl hl ho fun η3 w9 k9 f3 y18 => ?_
  have c9 := c8.then k9
  have y18 : η3 18 = .bool true := y18
  have b4 : η3 4 = .bool true := by rw [f3 4 (by omega)]; simp [upd, a4]
  have b11 : η3 11 = .bool true := by rw [f3 11 (by omega)]; simp [upd, y11]
  -- one more
  refine lit ?_
  refine np_op (vs := [.int .i64 1, .agg zO.toArray]) (by simp [SV.val, upd]) (F.o1 w9 _ fun d w10 k10 o10 => ?_)
  refine np_op (vs := [d]) (by simp [SV.val, upd]) (F.t1 w10 d _ et ev (own_sl0 o10) (er (c9.then k10)) fun cs w11 k11 hl ho => ?_)
  have c11 := (c9.then k10).then k11
  refine pc_ok (by simp [upd]) rfl hl ho fun η4 w12 k12 f4 y25 => ?_
  have c12 := c11.then k12
  have y25 : η4 25 = .bool true := y25
  have d4 : η4 4 = .bool true := by rw [f4 4 (by omega)]; simp [upd, b4]
  have d11 : η4 11 = .bool true := by rw [f4 11 (by omega)]; simp [upd, b11]
  have d18 : η4 18 = .bool true := by rw [f4 18 (by omega)]; simp [upd, y18]
  -- a record
  refine lit ?_
  refine np_op (vs := [.agg (zR 0).toArray]) (by simp [SV.val, upd]) (F.ms w12 _ fun w13 k13 => ?_)
  refine np_op (vs := [.agg (zR 6).toArray]) (by simp [SV.val, upd]) (F.rB w13 _ fun d w14 k14 o14 => ?_)
  have c14 := (c12.then k13).then k14
  refine np_op (vs := [d]) (by simp [SV.val, upd]) (F.tR w14 d _ _ et ev (own_sl0 o14) (by decide) (er c14) fun x cs w15 k15 hr _ _ => ?_)
  have c15 := c14.then k15
  obtain ⟨hl, ho⟩ := hr.one
  rw [rec_some]
  refine pc_ok (by simp [upd]) rfl hl ho fun η5 w16 k16 f5 y33 => ?_
  have c16 := c15.then k16
  have y33 : η5 33 = .bool true := y33
  have g4 : η5 4 = .bool true := by rw [f5 4 (by omega)]; simp [upd, d4]
  have g11 : η5 11 = .bool true := by rw [f5 11 (by omega)]; simp [upd, d11]
  have g18 : η5 18 = .bool true := by rw [f5 18 (by omega)]; simp [upd, d18]
  have g25 : η5 25 = .bool true := by rw [f5 25 (by omega)]; simp [upd, y25]
  -- a batch
  refine lit ?_
  refine np_op (vs := [.agg (zB 0).toArray]) (by simp [SV.val, upd]) (F.wh w16 _ fun w17 k17 => ?_)
  refine np_op (vs := [.agg (zB 49).toArray]) (by simp [SV.val, upd]) (F.bB w17 _ fun d w18 k18 o18 => ?_)
  have c18 := (c16.then k17).then k18
  refine np_op (vs := [d]) (by simp [SV.val, upd]) (F.tB w18 d _ et ev (own_sl0 o18) (er c18) fun cs w19 k19 hl ho => ?_)
  have c19 := c18.then k19
  refine pc_ok (by simp [upd]) rfl hl ho fun η6 w20 k20 f6 y41 => ?_
  have c20 := c19.then k20
  have y41 : η6 41 = .bool true := y41
  have h4 : η6 4 = .bool true := by rw [f6 4 (by omega)]; simp [upd, g4]
  have h11 : η6 11 = .bool true := by rw [f6 11 (by omega)]; simp [upd, g11]
  have h18 : η6 18 = .bool true := by rw [f6 18 (by omega)]; simp [upd, g18]
  have h25 : η6 25 = .bool true := by rw [f6 25 (by omega)]; simp [upd, g25]
  have h33 : η6 33 = .bool true := by rw [f6 33 (by omega)]; simp [upd, y33]
  refine iT (by simp [SV.val, h4]) ?_
  refine iT (by simp [SV.val, upd, h4]) ?_
  refine iT (by simp [SV.val, upd, h11]) ?_
  refine iT (by simp [SV.val, upd, h11]) ?_
  refine iT (by simp [SV.val, upd, h18]) ?_
  refine iT (by simp [SV.val, upd, h18]) ?_
  refine iT (by simp [SV.val, upd, h25]) ?_
  refine iT (by simp [SV.val, upd, h25]) ?_
  refine iT (by simp [SV.val, upd, h33]) ?_
  refine iT (by simp [SV.val, upd, h33]) ?_
  show K (pack _) w20
  simpa [pack, SV.val, upd, y41] using hk w20 c20

end
end Go.Ar
